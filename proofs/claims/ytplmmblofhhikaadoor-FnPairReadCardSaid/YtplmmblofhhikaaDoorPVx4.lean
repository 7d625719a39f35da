-- Written by wip/pp.py, a program of this session, out of the translation. Not trusted: Lean checks it.
import Derived.Test.YtplmmblofhhikaaDoorPVx0
namespace Go.Proofs.YtplmmblofhhikaaDoor.PV
open Go.RowKit Go.Proofs.YtplmmblofhhikaaDoor.Or Go.Proofs.YtplmmblofhhikaaDoorW.PrintWords Go.Proofs.YtplmmblofhhikaaDoorW.PrintLast Go.Proofs.YtplmmblofhhikaaDoorW.PrintMore
attribute [local go_sem] max2_int min2_int max_two min_two max_three min_three max_four min_four   -- for this text's walks alone
attribute [local go_sem] Go.Proofs.YtplmmblofhhikaaDoor.Ext.wrap64_mod256 Go.Proofs.YtplmmblofhhikaaDoor.Ext.wrap64_mod32 Go.Proofs.YtplmmblofhhikaaDoor.Ext.i64_mod256 Go.Proofs.YtplmmblofhhikaaDoor.Ext.i64_mod32 Go.Proofs.YtplmmblofhhikaaDoor.Ext.i64_u8 Go.Proofs.YtplmmblofhhikaaDoor.Ext.w64_u8 Go.Proofs.YtplmmblofhhikaaDoor.Ext.i64_u32 Go.Proofs.YtplmmblofhhikaaDoor.Ext.w64_u32 
set_option linter.unusedVariables false
set_option linter.unusedSimpArgs false

/-! ### xansi_CursorPosition: function 76 -/
def xansi_CursorPosition.j0 : Nat → Int → Int → Bool → Option (ByteArray)
  | 0, _, _, _ => none
  | k + 1, x0, x1, x12 => if x12 = true then (some (⟨#[27, 91, 72]⟩ : ByteArray)) else (if x1 > 0 then ((strconv_Itoa.f x1).bind fun t137 => (if x0 > 0 then ((strconv_Itoa.f x0).bind fun t138 => (if 2 + t137.size ≤ 9223372036854775807 then (if 2 + t137.size + 1 ≤ 9223372036854775807 then (if 2 + t137.size + 1 + t138.size ≤ 9223372036854775807 then (if 2 + t137.size + 1 + t138.size + 1 ≤ 9223372036854775807 then (some (((((⟨#[27, 91]⟩ : ByteArray) ++ t137) ++ (⟨#[59]⟩ : ByteArray)) ++ t138) ++ (⟨#[72]⟩ : ByteArray))) else (none)) else (none)) else (none)) else (none))) else (if 2 + t137.size ≤ 9223372036854775807 then (if 2 + t137.size + 1 ≤ 9223372036854775807 then (if 2 + t137.size + 1 + 0 ≤ 9223372036854775807 then (if 2 + t137.size + 1 + 0 + 1 ≤ 9223372036854775807 then (some (((((⟨#[27, 91]⟩ : ByteArray) ++ t137) ++ (⟨#[59]⟩ : ByteArray)) ++ (⟨#[]⟩ : ByteArray)) ++ (⟨#[72]⟩ : ByteArray))) else (none)) else (none)) else (none)) else (none)))) else (if x0 > 0 then ((strconv_Itoa.f x0).bind fun t139 => (if 2 + 0 ≤ 9223372036854775807 then (if 2 + 0 + 1 ≤ 9223372036854775807 then (if 2 + 0 + 1 + t139.size ≤ 9223372036854775807 then (if 2 + 0 + 1 + t139.size + 1 ≤ 9223372036854775807 then (some (((((⟨#[27, 91]⟩ : ByteArray) ++ (⟨#[]⟩ : ByteArray)) ++ (⟨#[59]⟩ : ByteArray)) ++ t139) ++ (⟨#[72]⟩ : ByteArray))) else (none)) else (none)) else (none)) else (none))) else (if 2 + 0 ≤ 9223372036854775807 then (if 2 + 0 + 1 ≤ 9223372036854775807 then (if 2 + 0 + 1 + 0 ≤ 9223372036854775807 then (if 2 + 0 + 1 + 0 + 1 ≤ 9223372036854775807 then (some (((((⟨#[27, 91]⟩ : ByteArray) ++ (⟨#[]⟩ : ByteArray)) ++ (⟨#[59]⟩ : ByteArray)) ++ (⟨#[]⟩ : ByteArray)) ++ (⟨#[72]⟩ : ByteArray))) else (none)) else (none)) else (none)) else (none))))
def xansi_CursorPosition.f (k : Nat) (a0 : Int) (a1 : Int) : Option (ByteArray) := if a1 ≤ 1 then (xansi_CursorPosition.j0 k a0 a1 (decide (a0 ≤ 1))) else (xansi_CursorPosition.j0 k a0 a1 false)
theorem xansi_CursorPosition.mono_l : ∀ k, (∀ y0 y1 y2, LeO (xansi_CursorPosition.j0 k y0 y1 y2) (xansi_CursorPosition.j0 (k + 1) y0 y1 y2))
  | 0 => fun _ _ _ r h => by simp [xansi_CursorPosition.j0] at h
  | k + 1 => by
    have ih0 := xansi_CursorPosition.mono_l k
    · intro y0 y1 y2
      unfold xansi_CursorPosition.j0
      repeat' first
      | (with_reducible exact ih0 _ _ _)
      | (with_reducible exact LeO.refl _)
      | (with_reducible exact LeO.none _)
      | (with_reducible refine LeO.ite ?_ ?_)
      | (with_reducible refine LeO.bind ?_ (fun _ => ?_))
      | exact ih0 _ _ _
      | exact LeO.none _
      | refine LeO.ite ?_ ?_
      | refine LeO.bind ?_ (fun _ => ?_)
theorem xansi_CursorPosition.mono : ∀ a0 a1 k, LeO (xansi_CursorPosition.f k a0 a1) (xansi_CursorPosition.f (k + 1) a0 a1) := by
  intro a0 a1 k
  have ih0 := xansi_CursorPosition.mono_l k
  unfold xansi_CursorPosition.f
  repeat' first
      | (with_reducible exact ih0 _ _ _)
      | (with_reducible exact LeO.refl _)
      | (with_reducible exact LeO.none _)
      | (with_reducible refine LeO.ite ?_ ?_)
      | (with_reducible refine LeO.bind ?_ (fun _ => ?_))
      | exact ih0 _ _ _
      | exact LeO.none _
      | refine LeO.ite ?_ ?_
      | refine LeO.bind ?_ (fun _ => ?_)
set_option maxHeartbeats 8000000 in
set_option maxRecDepth 100000 in
theorem xansi_CursorPosition.calls (k : Nat) (a0 : Int) (a1 : Int) (r : ByteArray) (w : World) (hLD : Laid w) (h : xansi_CursorPosition.f k a0 a1 = some r) :
    Calls Tryd.prog 76 #[.int .i64 a0, .int .i64 a1] w fun e w' => e = .returned (.string r) ∧ Below w.heap.size w w' := by
  have HLD := Aside0.mk hLD
  clear hLD
  have HB := Aside0.mk (Below.refl w.heap.size w)
  have H : (if a1 ≤ 1 then (xansi_CursorPosition.j0 k a0 a1 (decide (a0 ≤ 1))) else (xansi_CursorPosition.j0 k a0 a1 false)) = some r := h
  clear h
  have HC3 := Aside0.mk H
  clear H
  go_enter Tryd.func76, Tryd.ntmps76
  go_upto_region 1 with (fail)
  go_cut [12] (fun v12 wc => ∃ (kq : Nat) (x12_2 : Bool), v12 = .bool x12_2 ∧ Aside0 (xansi_CursorPosition.j0 kq a0 a1 x12_2 = some r) ∧ Aside0 (kq ≤ k) ∧ Aside0 (Below w.heap.size w wc))
  case first =>
    have H := HC3.out
    clear HC3
    by_cases c4 : a1 ≤ 1
    · rw [if_pos c4] at H
      have c4b0 : decide (a1 ≤ 1) = true := decide_eq_true c4
      clear c4
      (first | rw [c4b0] | (simp only [i64_w, i32_w]; rw [c4b0]) | skip)
      have H' := Aside0.mk H
      clear H
      go_wp2
      go_meet
      case rel => exact ⟨_, (decide (a0 ≤ 1)), (by first | rfl | (simp; done) | (simp [*]; done)), H', ⟨by first | omega | exact Nat.le_refl _⟩, ⟨by repeat (first | (with_reducible first | exact HB.out | apply below_alloc | apply Go.Proofs.YtplmmblofhhikaaDoor.Ext.below_bytes | apply pw_below_drewN | apply below_drew1) | exact HB.out)⟩⟩
    · rw [if_neg c4] at H
      have c4b0 : decide (a1 ≤ 1) = false := decide_eq_false c4
      clear c4
      (first | rw [c4b0] | (simp only [i64_w, i32_w]; rw [c4b0]) | skip)
      have H' := Aside0.mk H
      clear H
      go_wp2
      go_meet
      case rel => exact ⟨_, (false), (by first | rfl | (simp; done) | (simp [*]; done)), H', ⟨by first | omega | exact Nat.le_refl _⟩, ⟨by repeat (first | (with_reducible first | exact HB.out | apply below_alloc | apply Go.Proofs.YtplmmblofhhikaaDoor.Ext.below_bytes | apply pw_below_drewN | apply below_drew1) | exact HB.out)⟩⟩
  case rest =>
    clear HC3
    try clear p2
    try clear c4
    try clear c4b0
    obtain ⟨kq, x12_2, rfl, HA, HJ2, HB⟩ := hcut
    cases kq with
    | zero => exact absurd HA.out (by simp [xansi_CursorPosition.j0])
    | succ kj2 =>
      have H := HA.out
      clear HA
      simp only [xansi_CursorPosition.j0] at H
      by_cases c5 : x12_2 = true
      · subst c5
        have H1 : (some (⟨#[27, 91, 72]⟩ : ByteArray)) = some r := by rw [if_pos rfl] at H; exact H
        clear H
        have H := H1
        clear H1
        obtain rfl := Option.some.inj H
        go_wp2
        go_ret
        exact ⟨by first | rfl | (simp [errW_none, errW_some] <;> rfl) | (simp [*, errW_none, errW_some] <;> rfl), by repeat (first | (with_reducible first | exact HB.out | apply below_alloc | apply Go.Proofs.YtplmmblofhhikaaDoor.Ext.below_bytes | apply pw_below_drewN | apply below_drew1) | exact HB.out)⟩
      · replace c5 := Bool.eq_false_iff.mpr c5
        subst c5
        have H1 : (if a1 > 0 then ((strconv_Itoa.f a1).bind fun t137 => (if a0 > 0 then ((strconv_Itoa.f a0).bind fun t138 => (if 2 + t137.size ≤ 9223372036854775807 then (if 2 + t137.size + 1 ≤ 9223372036854775807 then (if 2 + t137.size + 1 + t138.size ≤ 9223372036854775807 then (if 2 + t137.size + 1 + t138.size + 1 ≤ 9223372036854775807 then (some (((((⟨#[27, 91]⟩ : ByteArray) ++ t137) ++ (⟨#[59]⟩ : ByteArray)) ++ t138) ++ (⟨#[72]⟩ : ByteArray))) else (none)) else (none)) else (none)) else (none))) else (if 2 + t137.size ≤ 9223372036854775807 then (if 2 + t137.size + 1 ≤ 9223372036854775807 then (if 2 + t137.size + 1 + 0 ≤ 9223372036854775807 then (if 2 + t137.size + 1 + 0 + 1 ≤ 9223372036854775807 then (some (((((⟨#[27, 91]⟩ : ByteArray) ++ t137) ++ (⟨#[59]⟩ : ByteArray)) ++ (⟨#[]⟩ : ByteArray)) ++ (⟨#[72]⟩ : ByteArray))) else (none)) else (none)) else (none)) else (none)))) else (if a0 > 0 then ((strconv_Itoa.f a0).bind fun t139 => (if 2 + 0 ≤ 9223372036854775807 then (if 2 + 0 + 1 ≤ 9223372036854775807 then (if 2 + 0 + 1 + t139.size ≤ 9223372036854775807 then (if 2 + 0 + 1 + t139.size + 1 ≤ 9223372036854775807 then (some (((((⟨#[27, 91]⟩ : ByteArray) ++ (⟨#[]⟩ : ByteArray)) ++ (⟨#[59]⟩ : ByteArray)) ++ t139) ++ (⟨#[72]⟩ : ByteArray))) else (none)) else (none)) else (none)) else (none))) else (if 2 + 0 ≤ 9223372036854775807 then (if 2 + 0 + 1 ≤ 9223372036854775807 then (if 2 + 0 + 1 + 0 ≤ 9223372036854775807 then (if 2 + 0 + 1 + 0 + 1 ≤ 9223372036854775807 then (some (((((⟨#[27, 91]⟩ : ByteArray) ++ (⟨#[]⟩ : ByteArray)) ++ (⟨#[59]⟩ : ByteArray)) ++ (⟨#[]⟩ : ByteArray)) ++ (⟨#[72]⟩ : ByteArray))) else (none)) else (none)) else (none)) else (none)))) = some r := by rw [if_neg (show ¬ (false = true) by decide)] at H; exact H
        clear H
        have H := H1
        clear H1
        by_cases c6 : a1 > 0
        · rw [if_pos c6] at H
          have c6b0 : decide (0 < a1) = true := decide_eq_true c6
          clear c6
          replace H := Option.bind_eq_some_iff.mp H
          obtain ⟨t137, A70, H⟩ := H
          replace H : (if a0 > 0 then ((strconv_Itoa.f a0).bind fun t138 => (if 2 + t137.size ≤ 9223372036854775807 then (if 2 + t137.size + 1 ≤ 9223372036854775807 then (if 2 + t137.size + 1 + t138.size ≤ 9223372036854775807 then (if 2 + t137.size + 1 + t138.size + 1 ≤ 9223372036854775807 then (some (((((⟨#[27, 91]⟩ : ByteArray) ++ t137) ++ (⟨#[59]⟩ : ByteArray)) ++ t138) ++ (⟨#[72]⟩ : ByteArray))) else (none)) else (none)) else (none)) else (none))) else (if 2 + t137.size ≤ 9223372036854775807 then (if 2 + t137.size + 1 ≤ 9223372036854775807 then (if 2 + t137.size + 1 + 0 ≤ 9223372036854775807 then (if 2 + t137.size + 1 + 0 + 1 ≤ 9223372036854775807 then (some (((((⟨#[27, 91]⟩ : ByteArray) ++ t137) ++ (⟨#[59]⟩ : ByteArray)) ++ (⟨#[]⟩ : ByteArray)) ++ (⟨#[72]⟩ : ByteArray))) else (none)) else (none)) else (none)) else (none))) = some r := H
          have A7 := Aside0.mk A70
          clear A70
          by_cases c8 : a0 > 0
          · rw [if_pos c8] at H
            have c8b0 : decide (0 < a0) = true := decide_eq_true c8
            clear c8
            replace H := Option.bind_eq_some_iff.mp H
            obtain ⟨t138, A90, H⟩ := H
            replace H : (if 2 + t137.size ≤ 9223372036854775807 then (if 2 + t137.size + 1 ≤ 9223372036854775807 then (if 2 + t137.size + 1 + t138.size ≤ 9223372036854775807 then (if 2 + t137.size + 1 + t138.size + 1 ≤ 9223372036854775807 then (some (((((⟨#[27, 91]⟩ : ByteArray) ++ t137) ++ (⟨#[59]⟩ : ByteArray)) ++ t138) ++ (⟨#[72]⟩ : ByteArray))) else (none)) else (none)) else (none)) else (none)) = some r := H
            have A9 := Aside0.mk A90
            clear A90
            by_cases c10 : 2 + t137.size ≤ 9223372036854775807
            · rw [if_pos c10] at H
              have c10b0 := eq_true c10
              have c10b1 : decide (2 + t137.size ≤ 9223372036854775807) = true := decide_eq_true c10
              try have c10b2 : (9223372036854775807 < 2 + t137.size) = False := eq_false (Nat.not_lt.2 c10)
              by_cases c11 : 2 + t137.size + 1 ≤ 9223372036854775807
              · rw [if_pos c11] at H
                have c11b0 := eq_true c11
                have c11b1 : decide (2 + t137.size + 1 ≤ 9223372036854775807) = true := decide_eq_true c11
                try have c11b2 : (9223372036854775807 < 2 + t137.size + 1) = False := eq_false (Nat.not_lt.2 c11)
                by_cases c12 : 2 + t137.size + 1 + t138.size ≤ 9223372036854775807
                · rw [if_pos c12] at H
                  have c12b0 := eq_true c12
                  have c12b1 : decide (2 + t137.size + 1 + t138.size ≤ 9223372036854775807) = true := decide_eq_true c12
                  try have c12b2 : (9223372036854775807 < 2 + t137.size + 1 + t138.size) = False := eq_false (Nat.not_lt.2 c12)
                  by_cases c13 : 2 + t137.size + 1 + t138.size + 1 ≤ 9223372036854775807
                  · rw [if_pos c13] at H
                    have c13b0 := eq_true c13
                    have c13b1 : decide (2 + t137.size + 1 + t138.size + 1 ≤ 9223372036854775807) = true := decide_eq_true c13
                    try have c13b2 : (9223372036854775807 < 2 + t137.size + 1 + t138.size + 1) = False := eq_false (Nat.not_lt.2 c13)
                    obtain rfl := Option.some.inj H
                    go_wp2_with (first | ((with_reducible refine gate_callee (f := 109) rfl ?_); refine goesL_ (some 16) rfl rfl Tryd.func109 (by kernel_rfl) rfl #[.int .i64 a1] rfl (by (try simp only [List.map_toArray, List.map_cons, List.map_nil]); first | done | rfl | (simp only [List.length_drop, List.length_take]; rfl) | (simp [Act.eval, *]; done) | (simp [Act.eval, *]; unfold wrap64; omega)) ?_; (with_reducible refine (strconv_Itoa.calls a1 t137 _ ?side1 A7.out).mono ?_); (case side1 => exact HLD.out.below (by repeat (first | (with_reducible first | exact HB.out | apply below_alloc | apply Go.Proofs.YtplmmblofhhikaaDoor.Ext.below_bytes | apply pw_below_drewN | apply below_drew1) | exact HB.out))); rintro e w14 ⟨rfl, hb⟩; refine ⟨_, rfl, ?_⟩; have n0_ := Aside0.mk (below_step (by repeat (first | (with_reducible first | exact HB.out | apply below_alloc | apply Go.Proofs.YtplmmblofhhikaaDoor.Ext.below_bytes | apply pw_below_drewN | apply below_drew1) | exact HB.out)) hb); clear HB; have HB := n0_; clear n0_; (try clear hb); (try clear hb2); (try clear hk); (try clear hi)) | ((with_reducible refine gate_callee (f := 109) rfl ?_); refine goesL_ (some 20) rfl rfl Tryd.func109 (by kernel_rfl) rfl #[.int .i64 a0] rfl (by (try simp only [List.map_toArray, List.map_cons, List.map_nil]); first | done | rfl | (simp only [List.length_drop, List.length_take]; rfl) | (simp [Act.eval, *]; done) | (simp [Act.eval, *]; unfold wrap64; omega)) ?_; (with_reducible refine (strconv_Itoa.calls a0 t138 _ ?side1 A9.out).mono ?_); (case side1 => exact HLD.out.below (by repeat (first | (with_reducible first | exact HB.out | apply below_alloc | apply Go.Proofs.YtplmmblofhhikaaDoor.Ext.below_bytes | apply pw_below_drewN | apply below_drew1) | exact HB.out))); rintro e w15 ⟨rfl, hb⟩; refine ⟨_, rfl, ?_⟩; have n0_ := Aside0.mk (below_step (by repeat (first | (with_reducible first | exact HB.out | apply below_alloc | apply Go.Proofs.YtplmmblofhhikaaDoor.Ext.below_bytes | apply pw_below_drewN | apply below_drew1) | exact HB.out)) hb); clear HB; have HB := n0_; clear n0_; (try clear hb); (try clear hb2); (try clear hk); (try clear hi)))
                    go_ret
                    exact ⟨by first | rfl | (simp [errW_none, errW_some] <;> rfl) | (simp [*, errW_none, errW_some] <;> rfl), by repeat (first | (with_reducible first | exact HB.out | apply below_alloc | apply Go.Proofs.YtplmmblofhhikaaDoor.Ext.below_bytes | apply pw_below_drewN | apply below_drew1) | exact HB.out)⟩
                  · rw [if_neg c13] at H
                    exact absurd H (by simp)
                · rw [if_neg c12] at H
                  exact absurd H (by simp)
              · rw [if_neg c11] at H
                exact absurd H (by simp)
            · rw [if_neg c10] at H
              exact absurd H (by simp)
          · rw [if_neg c8] at H
            have c8b0 : decide (0 < a0) = false := decide_eq_false c8
            clear c8
            by_cases c16 : 2 + t137.size ≤ 9223372036854775807
            · rw [if_pos c16] at H
              have c16b0 := eq_true c16
              have c16b1 : decide (2 + t137.size ≤ 9223372036854775807) = true := decide_eq_true c16
              try have c16b2 : (9223372036854775807 < 2 + t137.size) = False := eq_false (Nat.not_lt.2 c16)
              by_cases c17 : 2 + t137.size + 1 ≤ 9223372036854775807
              · rw [if_pos c17] at H
                have c17b0 := eq_true c17
                have c17b1 : decide (2 + t137.size + 1 ≤ 9223372036854775807) = true := decide_eq_true c17
                try have c17b2 : (9223372036854775807 < 2 + t137.size + 1) = False := eq_false (Nat.not_lt.2 c17)
                by_cases c18 : 2 + t137.size + 1 + 0 ≤ 9223372036854775807
                · rw [if_pos c18] at H
                  have c18b0 := eq_true c18
                  have c18b1 : decide (2 + t137.size + 1 + 0 ≤ 9223372036854775807) = true := decide_eq_true c18
                  try have c18b2 : (9223372036854775807 < 2 + t137.size + 1 + 0) = False := eq_false (Nat.not_lt.2 c18)
                  by_cases c19 : 2 + t137.size + 1 + 0 + 1 ≤ 9223372036854775807
                  · rw [if_pos c19] at H
                    have c19b0 := eq_true c19
                    have c19b1 : decide (2 + t137.size + 1 + 0 + 1 ≤ 9223372036854775807) = true := decide_eq_true c19
                    try have c19b2 : (9223372036854775807 < 2 + t137.size + 1 + 0 + 1) = False := eq_false (Nat.not_lt.2 c19)
                    obtain rfl := Option.some.inj H
                    go_wp2_with (first | ((with_reducible refine gate_callee (f := 109) rfl ?_); refine goesL_ (some 16) rfl rfl Tryd.func109 (by kernel_rfl) rfl #[.int .i64 a1] rfl (by (try simp only [List.map_toArray, List.map_cons, List.map_nil]); first | done | rfl | (simp only [List.length_drop, List.length_take]; rfl) | (simp [Act.eval, *]; done) | (simp [Act.eval, *]; unfold wrap64; omega)) ?_; (with_reducible refine (strconv_Itoa.calls a1 t137 _ ?side1 A7.out).mono ?_); (case side1 => exact HLD.out.below (by repeat (first | (with_reducible first | exact HB.out | apply below_alloc | apply Go.Proofs.YtplmmblofhhikaaDoor.Ext.below_bytes | apply pw_below_drewN | apply below_drew1) | exact HB.out))); rintro e w20 ⟨rfl, hb⟩; refine ⟨_, rfl, ?_⟩; have n0_ := Aside0.mk (below_step (by repeat (first | (with_reducible first | exact HB.out | apply below_alloc | apply Go.Proofs.YtplmmblofhhikaaDoor.Ext.below_bytes | apply pw_below_drewN | apply below_drew1) | exact HB.out)) hb); clear HB; have HB := n0_; clear n0_; (try clear hb); (try clear hb2); (try clear hk); (try clear hi)))
                    go_ret
                    exact ⟨by first | rfl | (simp [errW_none, errW_some] <;> rfl) | (simp [*, errW_none, errW_some] <;> rfl), by repeat (first | (with_reducible first | exact HB.out | apply below_alloc | apply Go.Proofs.YtplmmblofhhikaaDoor.Ext.below_bytes | apply pw_below_drewN | apply below_drew1) | exact HB.out)⟩
                  · rw [if_neg c19] at H
                    exact absurd H (by simp)
                · rw [if_neg c18] at H
                  exact absurd H (by simp)
              · rw [if_neg c17] at H
                exact absurd H (by simp)
            · rw [if_neg c16] at H
              exact absurd H (by simp)
        · rw [if_neg c6] at H
          have c6b0 : decide (0 < a1) = false := decide_eq_false c6
          clear c6
          by_cases c21 : a0 > 0
          · rw [if_pos c21] at H
            have c21b0 : decide (0 < a0) = true := decide_eq_true c21
            clear c21
            replace H := Option.bind_eq_some_iff.mp H
            obtain ⟨t139, A220, H⟩ := H
            replace H : (if 2 + 0 ≤ 9223372036854775807 then (if 2 + 0 + 1 ≤ 9223372036854775807 then (if 2 + 0 + 1 + t139.size ≤ 9223372036854775807 then (if 2 + 0 + 1 + t139.size + 1 ≤ 9223372036854775807 then (some (((((⟨#[27, 91]⟩ : ByteArray) ++ (⟨#[]⟩ : ByteArray)) ++ (⟨#[59]⟩ : ByteArray)) ++ t139) ++ (⟨#[72]⟩ : ByteArray))) else (none)) else (none)) else (none)) else (none)) = some r := H
            have A22 := Aside0.mk A220
            clear A220
            by_cases c23 : 2 + 0 ≤ 9223372036854775807
            · rw [if_pos c23] at H
              have c23b0 := eq_true c23
              have c23b1 : decide (2 + 0 ≤ 9223372036854775807) = true := decide_eq_true c23
              try have c23b2 : (9223372036854775807 < 2 + 0) = False := eq_false (Nat.not_lt.2 c23)
              by_cases c24 : 2 + 0 + 1 ≤ 9223372036854775807
              · rw [if_pos c24] at H
                have c24b0 := eq_true c24
                have c24b1 : decide (2 + 0 + 1 ≤ 9223372036854775807) = true := decide_eq_true c24
                try have c24b2 : (9223372036854775807 < 2 + 0 + 1) = False := eq_false (Nat.not_lt.2 c24)
                by_cases c25 : 2 + 0 + 1 + t139.size ≤ 9223372036854775807
                · rw [if_pos c25] at H
                  have c25b0 := eq_true c25
                  have c25b1 : decide (2 + 0 + 1 + t139.size ≤ 9223372036854775807) = true := decide_eq_true c25
                  try have c25b2 : (9223372036854775807 < 2 + 0 + 1 + t139.size) = False := eq_false (Nat.not_lt.2 c25)
                  by_cases c26 : 2 + 0 + 1 + t139.size + 1 ≤ 9223372036854775807
                  · rw [if_pos c26] at H
                    have c26b0 := eq_true c26
                    have c26b1 : decide (2 + 0 + 1 + t139.size + 1 ≤ 9223372036854775807) = true := decide_eq_true c26
                    try have c26b2 : (9223372036854775807 < 2 + 0 + 1 + t139.size + 1) = False := eq_false (Nat.not_lt.2 c26)
                    obtain rfl := Option.some.inj H
                    go_wp2_with (first | ((with_reducible refine gate_callee (f := 109) rfl ?_); refine goesL_ (some 20) rfl rfl Tryd.func109 (by kernel_rfl) rfl #[.int .i64 a0] rfl (by (try simp only [List.map_toArray, List.map_cons, List.map_nil]); first | done | rfl | (simp only [List.length_drop, List.length_take]; rfl) | (simp [Act.eval, *]; done) | (simp [Act.eval, *]; unfold wrap64; omega)) ?_; (with_reducible refine (strconv_Itoa.calls a0 t139 _ ?side1 A22.out).mono ?_); (case side1 => exact HLD.out.below (by repeat (first | (with_reducible first | exact HB.out | apply below_alloc | apply Go.Proofs.YtplmmblofhhikaaDoor.Ext.below_bytes | apply pw_below_drewN | apply below_drew1) | exact HB.out))); rintro e w27 ⟨rfl, hb⟩; refine ⟨_, rfl, ?_⟩; have n0_ := Aside0.mk (below_step (by repeat (first | (with_reducible first | exact HB.out | apply below_alloc | apply Go.Proofs.YtplmmblofhhikaaDoor.Ext.below_bytes | apply pw_below_drewN | apply below_drew1) | exact HB.out)) hb); clear HB; have HB := n0_; clear n0_; (try clear hb); (try clear hb2); (try clear hk); (try clear hi)))
                    go_ret
                    exact ⟨by first | rfl | (simp [errW_none, errW_some] <;> rfl) | (simp [*, errW_none, errW_some] <;> rfl), by repeat (first | (with_reducible first | exact HB.out | apply below_alloc | apply Go.Proofs.YtplmmblofhhikaaDoor.Ext.below_bytes | apply pw_below_drewN | apply below_drew1) | exact HB.out)⟩
                  · rw [if_neg c26] at H
                    exact absurd H (by simp)
                · rw [if_neg c25] at H
                  exact absurd H (by simp)
              · rw [if_neg c24] at H
                exact absurd H (by simp)
            · rw [if_neg c23] at H
              exact absurd H (by simp)
          · rw [if_neg c21] at H
            have c21b0 : decide (0 < a0) = false := decide_eq_false c21
            clear c21
            by_cases c28 : 2 + 0 ≤ 9223372036854775807
            · rw [if_pos c28] at H
              have c28b0 := eq_true c28
              have c28b1 : decide (2 + 0 ≤ 9223372036854775807) = true := decide_eq_true c28
              try have c28b2 : (9223372036854775807 < 2 + 0) = False := eq_false (Nat.not_lt.2 c28)
              by_cases c29 : 2 + 0 + 1 ≤ 9223372036854775807
              · rw [if_pos c29] at H
                have c29b0 := eq_true c29
                have c29b1 : decide (2 + 0 + 1 ≤ 9223372036854775807) = true := decide_eq_true c29
                try have c29b2 : (9223372036854775807 < 2 + 0 + 1) = False := eq_false (Nat.not_lt.2 c29)
                by_cases c30 : 2 + 0 + 1 + 0 ≤ 9223372036854775807
                · rw [if_pos c30] at H
                  have c30b0 := eq_true c30
                  have c30b1 : decide (2 + 0 + 1 + 0 ≤ 9223372036854775807) = true := decide_eq_true c30
                  try have c30b2 : (9223372036854775807 < 2 + 0 + 1 + 0) = False := eq_false (Nat.not_lt.2 c30)
                  by_cases c31 : 2 + 0 + 1 + 0 + 1 ≤ 9223372036854775807
                  · rw [if_pos c31] at H
                    have c31b0 := eq_true c31
                    have c31b1 : decide (2 + 0 + 1 + 0 + 1 ≤ 9223372036854775807) = true := decide_eq_true c31
                    try have c31b2 : (9223372036854775807 < 2 + 0 + 1 + 0 + 1) = False := eq_false (Nat.not_lt.2 c31)
                    obtain rfl := Option.some.inj H
                    go_wp2
                    go_ret
                    exact ⟨by first | rfl | (simp [errW_none, errW_some] <;> rfl) | (simp [*, errW_none, errW_some] <;> rfl), by repeat (first | (with_reducible first | exact HB.out | apply below_alloc | apply Go.Proofs.YtplmmblofhhikaaDoor.Ext.below_bytes | apply pw_below_drewN | apply below_drew1) | exact HB.out)⟩
                  · rw [if_neg c31] at H
                    exact absurd H (by simp)
                · rw [if_neg c30] at H
                  exact absurd H (by simp)
              · rw [if_neg c29] at H
                exact absurd H (by simp)
            · rw [if_neg c28] at H
              exact absurd H (by simp)

/-! ### xansi_HorizontalVerticalPosition: function 77 -/
def xansi_HorizontalVerticalPosition.f (a0 : Int) (a1 : Int) : Option (ByteArray) := if a1 > 0 then ((strconv_Itoa.f a1).bind fun t140 => (if a0 > 0 then ((strconv_Itoa.f a0).bind fun t141 => (if 2 + t140.size ≤ 9223372036854775807 then (if 2 + t140.size + 1 ≤ 9223372036854775807 then (if 2 + t140.size + 1 + t141.size ≤ 9223372036854775807 then (if 2 + t140.size + 1 + t141.size + 1 ≤ 9223372036854775807 then (some (((((⟨#[27, 91]⟩ : ByteArray) ++ t140) ++ (⟨#[59]⟩ : ByteArray)) ++ t141) ++ (⟨#[102]⟩ : ByteArray))) else (none)) else (none)) else (none)) else (none))) else (if 2 + t140.size ≤ 9223372036854775807 then (if 2 + t140.size + 1 ≤ 9223372036854775807 then (if 2 + t140.size + 1 + 0 ≤ 9223372036854775807 then (if 2 + t140.size + 1 + 0 + 1 ≤ 9223372036854775807 then (some (((((⟨#[27, 91]⟩ : ByteArray) ++ t140) ++ (⟨#[59]⟩ : ByteArray)) ++ (⟨#[]⟩ : ByteArray)) ++ (⟨#[102]⟩ : ByteArray))) else (none)) else (none)) else (none)) else (none)))) else (if a0 > 0 then ((strconv_Itoa.f a0).bind fun t142 => (if 2 + 0 ≤ 9223372036854775807 then (if 2 + 0 + 1 ≤ 9223372036854775807 then (if 2 + 0 + 1 + t142.size ≤ 9223372036854775807 then (if 2 + 0 + 1 + t142.size + 1 ≤ 9223372036854775807 then (some (((((⟨#[27, 91]⟩ : ByteArray) ++ (⟨#[]⟩ : ByteArray)) ++ (⟨#[59]⟩ : ByteArray)) ++ t142) ++ (⟨#[102]⟩ : ByteArray))) else (none)) else (none)) else (none)) else (none))) else (if 2 + 0 ≤ 9223372036854775807 then (if 2 + 0 + 1 ≤ 9223372036854775807 then (if 2 + 0 + 1 + 0 ≤ 9223372036854775807 then (if 2 + 0 + 1 + 0 + 1 ≤ 9223372036854775807 then (some (((((⟨#[27, 91]⟩ : ByteArray) ++ (⟨#[]⟩ : ByteArray)) ++ (⟨#[59]⟩ : ByteArray)) ++ (⟨#[]⟩ : ByteArray)) ++ (⟨#[102]⟩ : ByteArray))) else (none)) else (none)) else (none)) else (none)))
set_option maxHeartbeats 8000000 in
set_option maxRecDepth 100000 in
theorem xansi_HorizontalVerticalPosition.calls (a0 : Int) (a1 : Int) (r : ByteArray) (w : World) (hLD : Laid w) (h : xansi_HorizontalVerticalPosition.f a0 a1 = some r) :
    Calls Tryd.prog 77 #[.int .i64 a0, .int .i64 a1] w fun e w' => e = .returned (.string r) ∧ Below w.heap.size w w' := by
  have HLD := Aside0.mk hLD
  clear hLD
  have HB := Aside0.mk (Below.refl w.heap.size w)
  have H : (if a1 > 0 then ((strconv_Itoa.f a1).bind fun t140 => (if a0 > 0 then ((strconv_Itoa.f a0).bind fun t141 => (if 2 + t140.size ≤ 9223372036854775807 then (if 2 + t140.size + 1 ≤ 9223372036854775807 then (if 2 + t140.size + 1 + t141.size ≤ 9223372036854775807 then (if 2 + t140.size + 1 + t141.size + 1 ≤ 9223372036854775807 then (some (((((⟨#[27, 91]⟩ : ByteArray) ++ t140) ++ (⟨#[59]⟩ : ByteArray)) ++ t141) ++ (⟨#[102]⟩ : ByteArray))) else (none)) else (none)) else (none)) else (none))) else (if 2 + t140.size ≤ 9223372036854775807 then (if 2 + t140.size + 1 ≤ 9223372036854775807 then (if 2 + t140.size + 1 + 0 ≤ 9223372036854775807 then (if 2 + t140.size + 1 + 0 + 1 ≤ 9223372036854775807 then (some (((((⟨#[27, 91]⟩ : ByteArray) ++ t140) ++ (⟨#[59]⟩ : ByteArray)) ++ (⟨#[]⟩ : ByteArray)) ++ (⟨#[102]⟩ : ByteArray))) else (none)) else (none)) else (none)) else (none)))) else (if a0 > 0 then ((strconv_Itoa.f a0).bind fun t142 => (if 2 + 0 ≤ 9223372036854775807 then (if 2 + 0 + 1 ≤ 9223372036854775807 then (if 2 + 0 + 1 + t142.size ≤ 9223372036854775807 then (if 2 + 0 + 1 + t142.size + 1 ≤ 9223372036854775807 then (some (((((⟨#[27, 91]⟩ : ByteArray) ++ (⟨#[]⟩ : ByteArray)) ++ (⟨#[59]⟩ : ByteArray)) ++ t142) ++ (⟨#[102]⟩ : ByteArray))) else (none)) else (none)) else (none)) else (none))) else (if 2 + 0 ≤ 9223372036854775807 then (if 2 + 0 + 1 ≤ 9223372036854775807 then (if 2 + 0 + 1 + 0 ≤ 9223372036854775807 then (if 2 + 0 + 1 + 0 + 1 ≤ 9223372036854775807 then (some (((((⟨#[27, 91]⟩ : ByteArray) ++ (⟨#[]⟩ : ByteArray)) ++ (⟨#[59]⟩ : ByteArray)) ++ (⟨#[]⟩ : ByteArray)) ++ (⟨#[102]⟩ : ByteArray))) else (none)) else (none)) else (none)) else (none)))) = some r := h
  clear h
  by_cases c3 : a1 > 0
  · rw [if_pos c3] at H
    have c3b0 : decide (0 < a1) = true := decide_eq_true c3
    clear c3
    replace H := Option.bind_eq_some_iff.mp H
    obtain ⟨t140, A40, H⟩ := H
    replace H : (if a0 > 0 then ((strconv_Itoa.f a0).bind fun t141 => (if 2 + t140.size ≤ 9223372036854775807 then (if 2 + t140.size + 1 ≤ 9223372036854775807 then (if 2 + t140.size + 1 + t141.size ≤ 9223372036854775807 then (if 2 + t140.size + 1 + t141.size + 1 ≤ 9223372036854775807 then (some (((((⟨#[27, 91]⟩ : ByteArray) ++ t140) ++ (⟨#[59]⟩ : ByteArray)) ++ t141) ++ (⟨#[102]⟩ : ByteArray))) else (none)) else (none)) else (none)) else (none))) else (if 2 + t140.size ≤ 9223372036854775807 then (if 2 + t140.size + 1 ≤ 9223372036854775807 then (if 2 + t140.size + 1 + 0 ≤ 9223372036854775807 then (if 2 + t140.size + 1 + 0 + 1 ≤ 9223372036854775807 then (some (((((⟨#[27, 91]⟩ : ByteArray) ++ t140) ++ (⟨#[59]⟩ : ByteArray)) ++ (⟨#[]⟩ : ByteArray)) ++ (⟨#[102]⟩ : ByteArray))) else (none)) else (none)) else (none)) else (none))) = some r := H
    have A4 := Aside0.mk A40
    clear A40
    by_cases c5 : a0 > 0
    · rw [if_pos c5] at H
      have c5b0 : decide (0 < a0) = true := decide_eq_true c5
      clear c5
      replace H := Option.bind_eq_some_iff.mp H
      obtain ⟨t141, A60, H⟩ := H
      replace H : (if 2 + t140.size ≤ 9223372036854775807 then (if 2 + t140.size + 1 ≤ 9223372036854775807 then (if 2 + t140.size + 1 + t141.size ≤ 9223372036854775807 then (if 2 + t140.size + 1 + t141.size + 1 ≤ 9223372036854775807 then (some (((((⟨#[27, 91]⟩ : ByteArray) ++ t140) ++ (⟨#[59]⟩ : ByteArray)) ++ t141) ++ (⟨#[102]⟩ : ByteArray))) else (none)) else (none)) else (none)) else (none)) = some r := H
      have A6 := Aside0.mk A60
      clear A60
      by_cases c7 : 2 + t140.size ≤ 9223372036854775807
      · rw [if_pos c7] at H
        have c7b0 := eq_true c7
        have c7b1 : decide (2 + t140.size ≤ 9223372036854775807) = true := decide_eq_true c7
        try have c7b2 : (9223372036854775807 < 2 + t140.size) = False := eq_false (Nat.not_lt.2 c7)
        by_cases c8 : 2 + t140.size + 1 ≤ 9223372036854775807
        · rw [if_pos c8] at H
          have c8b0 := eq_true c8
          have c8b1 : decide (2 + t140.size + 1 ≤ 9223372036854775807) = true := decide_eq_true c8
          try have c8b2 : (9223372036854775807 < 2 + t140.size + 1) = False := eq_false (Nat.not_lt.2 c8)
          by_cases c9 : 2 + t140.size + 1 + t141.size ≤ 9223372036854775807
          · rw [if_pos c9] at H
            have c9b0 := eq_true c9
            have c9b1 : decide (2 + t140.size + 1 + t141.size ≤ 9223372036854775807) = true := decide_eq_true c9
            try have c9b2 : (9223372036854775807 < 2 + t140.size + 1 + t141.size) = False := eq_false (Nat.not_lt.2 c9)
            by_cases c10 : 2 + t140.size + 1 + t141.size + 1 ≤ 9223372036854775807
            · rw [if_pos c10] at H
              have c10b0 := eq_true c10
              have c10b1 : decide (2 + t140.size + 1 + t141.size + 1 ≤ 9223372036854775807) = true := decide_eq_true c10
              try have c10b2 : (9223372036854775807 < 2 + t140.size + 1 + t141.size + 1) = False := eq_false (Nat.not_lt.2 c10)
              obtain rfl := Option.some.inj H
              go_enter Tryd.func77, Tryd.ntmps77
              go_wp2_with (first | ((with_reducible refine gate_callee (f := 109) rfl ?_); refine goesL_ (some 10) rfl rfl Tryd.func109 (by kernel_rfl) rfl #[.int .i64 a1] rfl (by (try simp only [List.map_toArray, List.map_cons, List.map_nil]); first | done | rfl | (simp only [List.length_drop, List.length_take]; rfl) | (simp [Act.eval, *]; done) | (simp [Act.eval, *]; unfold wrap64; omega)) ?_; (with_reducible refine (strconv_Itoa.calls a1 t140 _ ?side1 A4.out).mono ?_); (case side1 => exact HLD.out.below (by repeat (first | (with_reducible first | exact HB.out | apply below_alloc | apply Go.Proofs.YtplmmblofhhikaaDoor.Ext.below_bytes | apply pw_below_drewN | apply below_drew1) | exact HB.out))); rintro e w11 ⟨rfl, hb⟩; refine ⟨_, rfl, ?_⟩; have n0_ := Aside0.mk (below_step (by repeat (first | (with_reducible first | exact HB.out | apply below_alloc | apply Go.Proofs.YtplmmblofhhikaaDoor.Ext.below_bytes | apply pw_below_drewN | apply below_drew1) | exact HB.out)) hb); clear HB; have HB := n0_; clear n0_; (try clear hb); (try clear hb2); (try clear hk); (try clear hi)) | ((with_reducible refine gate_callee (f := 109) rfl ?_); refine goesL_ (some 14) rfl rfl Tryd.func109 (by kernel_rfl) rfl #[.int .i64 a0] rfl (by (try simp only [List.map_toArray, List.map_cons, List.map_nil]); first | done | rfl | (simp only [List.length_drop, List.length_take]; rfl) | (simp [Act.eval, *]; done) | (simp [Act.eval, *]; unfold wrap64; omega)) ?_; (with_reducible refine (strconv_Itoa.calls a0 t141 _ ?side1 A6.out).mono ?_); (case side1 => exact HLD.out.below (by repeat (first | (with_reducible first | exact HB.out | apply below_alloc | apply Go.Proofs.YtplmmblofhhikaaDoor.Ext.below_bytes | apply pw_below_drewN | apply below_drew1) | exact HB.out))); rintro e w12 ⟨rfl, hb⟩; refine ⟨_, rfl, ?_⟩; have n0_ := Aside0.mk (below_step (by repeat (first | (with_reducible first | exact HB.out | apply below_alloc | apply Go.Proofs.YtplmmblofhhikaaDoor.Ext.below_bytes | apply pw_below_drewN | apply below_drew1) | exact HB.out)) hb); clear HB; have HB := n0_; clear n0_; (try clear hb); (try clear hb2); (try clear hk); (try clear hi)))
              go_ret
              exact ⟨by first | rfl | (simp [errW_none, errW_some] <;> rfl) | (simp [*, errW_none, errW_some] <;> rfl), by repeat (first | (with_reducible first | exact HB.out | apply below_alloc | apply Go.Proofs.YtplmmblofhhikaaDoor.Ext.below_bytes | apply pw_below_drewN | apply below_drew1) | exact HB.out)⟩
            · rw [if_neg c10] at H
              exact absurd H (by simp)
          · rw [if_neg c9] at H
            exact absurd H (by simp)
        · rw [if_neg c8] at H
          exact absurd H (by simp)
      · rw [if_neg c7] at H
        exact absurd H (by simp)
    · rw [if_neg c5] at H
      have c5b0 : decide (0 < a0) = false := decide_eq_false c5
      clear c5
      by_cases c13 : 2 + t140.size ≤ 9223372036854775807
      · rw [if_pos c13] at H
        have c13b0 := eq_true c13
        have c13b1 : decide (2 + t140.size ≤ 9223372036854775807) = true := decide_eq_true c13
        try have c13b2 : (9223372036854775807 < 2 + t140.size) = False := eq_false (Nat.not_lt.2 c13)
        by_cases c14 : 2 + t140.size + 1 ≤ 9223372036854775807
        · rw [if_pos c14] at H
          have c14b0 := eq_true c14
          have c14b1 : decide (2 + t140.size + 1 ≤ 9223372036854775807) = true := decide_eq_true c14
          try have c14b2 : (9223372036854775807 < 2 + t140.size + 1) = False := eq_false (Nat.not_lt.2 c14)
          by_cases c15 : 2 + t140.size + 1 + 0 ≤ 9223372036854775807
          · rw [if_pos c15] at H
            have c15b0 := eq_true c15
            have c15b1 : decide (2 + t140.size + 1 + 0 ≤ 9223372036854775807) = true := decide_eq_true c15
            try have c15b2 : (9223372036854775807 < 2 + t140.size + 1 + 0) = False := eq_false (Nat.not_lt.2 c15)
            by_cases c16 : 2 + t140.size + 1 + 0 + 1 ≤ 9223372036854775807
            · rw [if_pos c16] at H
              have c16b0 := eq_true c16
              have c16b1 : decide (2 + t140.size + 1 + 0 + 1 ≤ 9223372036854775807) = true := decide_eq_true c16
              try have c16b2 : (9223372036854775807 < 2 + t140.size + 1 + 0 + 1) = False := eq_false (Nat.not_lt.2 c16)
              obtain rfl := Option.some.inj H
              go_enter Tryd.func77, Tryd.ntmps77
              go_wp2_with (first | ((with_reducible refine gate_callee (f := 109) rfl ?_); refine goesL_ (some 10) rfl rfl Tryd.func109 (by kernel_rfl) rfl #[.int .i64 a1] rfl (by (try simp only [List.map_toArray, List.map_cons, List.map_nil]); first | done | rfl | (simp only [List.length_drop, List.length_take]; rfl) | (simp [Act.eval, *]; done) | (simp [Act.eval, *]; unfold wrap64; omega)) ?_; (with_reducible refine (strconv_Itoa.calls a1 t140 _ ?side1 A4.out).mono ?_); (case side1 => exact HLD.out.below (by repeat (first | (with_reducible first | exact HB.out | apply below_alloc | apply Go.Proofs.YtplmmblofhhikaaDoor.Ext.below_bytes | apply pw_below_drewN | apply below_drew1) | exact HB.out))); rintro e w17 ⟨rfl, hb⟩; refine ⟨_, rfl, ?_⟩; have n0_ := Aside0.mk (below_step (by repeat (first | (with_reducible first | exact HB.out | apply below_alloc | apply Go.Proofs.YtplmmblofhhikaaDoor.Ext.below_bytes | apply pw_below_drewN | apply below_drew1) | exact HB.out)) hb); clear HB; have HB := n0_; clear n0_; (try clear hb); (try clear hb2); (try clear hk); (try clear hi)))
              go_ret
              exact ⟨by first | rfl | (simp [errW_none, errW_some] <;> rfl) | (simp [*, errW_none, errW_some] <;> rfl), by repeat (first | (with_reducible first | exact HB.out | apply below_alloc | apply Go.Proofs.YtplmmblofhhikaaDoor.Ext.below_bytes | apply pw_below_drewN | apply below_drew1) | exact HB.out)⟩
            · rw [if_neg c16] at H
              exact absurd H (by simp)
          · rw [if_neg c15] at H
            exact absurd H (by simp)
        · rw [if_neg c14] at H
          exact absurd H (by simp)
      · rw [if_neg c13] at H
        exact absurd H (by simp)
  · rw [if_neg c3] at H
    have c3b0 : decide (0 < a1) = false := decide_eq_false c3
    clear c3
    by_cases c18 : a0 > 0
    · rw [if_pos c18] at H
      have c18b0 : decide (0 < a0) = true := decide_eq_true c18
      clear c18
      replace H := Option.bind_eq_some_iff.mp H
      obtain ⟨t142, A190, H⟩ := H
      replace H : (if 2 + 0 ≤ 9223372036854775807 then (if 2 + 0 + 1 ≤ 9223372036854775807 then (if 2 + 0 + 1 + t142.size ≤ 9223372036854775807 then (if 2 + 0 + 1 + t142.size + 1 ≤ 9223372036854775807 then (some (((((⟨#[27, 91]⟩ : ByteArray) ++ (⟨#[]⟩ : ByteArray)) ++ (⟨#[59]⟩ : ByteArray)) ++ t142) ++ (⟨#[102]⟩ : ByteArray))) else (none)) else (none)) else (none)) else (none)) = some r := H
      have A19 := Aside0.mk A190
      clear A190
      by_cases c20 : 2 + 0 ≤ 9223372036854775807
      · rw [if_pos c20] at H
        have c20b0 := eq_true c20
        have c20b1 : decide (2 + 0 ≤ 9223372036854775807) = true := decide_eq_true c20
        try have c20b2 : (9223372036854775807 < 2 + 0) = False := eq_false (Nat.not_lt.2 c20)
        by_cases c21 : 2 + 0 + 1 ≤ 9223372036854775807
        · rw [if_pos c21] at H
          have c21b0 := eq_true c21
          have c21b1 : decide (2 + 0 + 1 ≤ 9223372036854775807) = true := decide_eq_true c21
          try have c21b2 : (9223372036854775807 < 2 + 0 + 1) = False := eq_false (Nat.not_lt.2 c21)
          by_cases c22 : 2 + 0 + 1 + t142.size ≤ 9223372036854775807
          · rw [if_pos c22] at H
            have c22b0 := eq_true c22
            have c22b1 : decide (2 + 0 + 1 + t142.size ≤ 9223372036854775807) = true := decide_eq_true c22
            try have c22b2 : (9223372036854775807 < 2 + 0 + 1 + t142.size) = False := eq_false (Nat.not_lt.2 c22)
            by_cases c23 : 2 + 0 + 1 + t142.size + 1 ≤ 9223372036854775807
            · rw [if_pos c23] at H
              have c23b0 := eq_true c23
              have c23b1 : decide (2 + 0 + 1 + t142.size + 1 ≤ 9223372036854775807) = true := decide_eq_true c23
              try have c23b2 : (9223372036854775807 < 2 + 0 + 1 + t142.size + 1) = False := eq_false (Nat.not_lt.2 c23)
              obtain rfl := Option.some.inj H
              go_enter Tryd.func77, Tryd.ntmps77
              go_wp2_with (first | ((with_reducible refine gate_callee (f := 109) rfl ?_); refine goesL_ (some 14) rfl rfl Tryd.func109 (by kernel_rfl) rfl #[.int .i64 a0] rfl (by (try simp only [List.map_toArray, List.map_cons, List.map_nil]); first | done | rfl | (simp only [List.length_drop, List.length_take]; rfl) | (simp [Act.eval, *]; done) | (simp [Act.eval, *]; unfold wrap64; omega)) ?_; (with_reducible refine (strconv_Itoa.calls a0 t142 _ ?side1 A19.out).mono ?_); (case side1 => exact HLD.out.below (by repeat (first | (with_reducible first | exact HB.out | apply below_alloc | apply Go.Proofs.YtplmmblofhhikaaDoor.Ext.below_bytes | apply pw_below_drewN | apply below_drew1) | exact HB.out))); rintro e w24 ⟨rfl, hb⟩; refine ⟨_, rfl, ?_⟩; have n0_ := Aside0.mk (below_step (by repeat (first | (with_reducible first | exact HB.out | apply below_alloc | apply Go.Proofs.YtplmmblofhhikaaDoor.Ext.below_bytes | apply pw_below_drewN | apply below_drew1) | exact HB.out)) hb); clear HB; have HB := n0_; clear n0_; (try clear hb); (try clear hb2); (try clear hk); (try clear hi)))
              go_ret
              exact ⟨by first | rfl | (simp [errW_none, errW_some] <;> rfl) | (simp [*, errW_none, errW_some] <;> rfl), by repeat (first | (with_reducible first | exact HB.out | apply below_alloc | apply Go.Proofs.YtplmmblofhhikaaDoor.Ext.below_bytes | apply pw_below_drewN | apply below_drew1) | exact HB.out)⟩
            · rw [if_neg c23] at H
              exact absurd H (by simp)
          · rw [if_neg c22] at H
            exact absurd H (by simp)
        · rw [if_neg c21] at H
          exact absurd H (by simp)
      · rw [if_neg c20] at H
        exact absurd H (by simp)
    · rw [if_neg c18] at H
      have c18b0 : decide (0 < a0) = false := decide_eq_false c18
      clear c18
      by_cases c25 : 2 + 0 ≤ 9223372036854775807
      · rw [if_pos c25] at H
        have c25b0 := eq_true c25
        have c25b1 : decide (2 + 0 ≤ 9223372036854775807) = true := decide_eq_true c25
        try have c25b2 : (9223372036854775807 < 2 + 0) = False := eq_false (Nat.not_lt.2 c25)
        by_cases c26 : 2 + 0 + 1 ≤ 9223372036854775807
        · rw [if_pos c26] at H
          have c26b0 := eq_true c26
          have c26b1 : decide (2 + 0 + 1 ≤ 9223372036854775807) = true := decide_eq_true c26
          try have c26b2 : (9223372036854775807 < 2 + 0 + 1) = False := eq_false (Nat.not_lt.2 c26)
          by_cases c27 : 2 + 0 + 1 + 0 ≤ 9223372036854775807
          · rw [if_pos c27] at H
            have c27b0 := eq_true c27
            have c27b1 : decide (2 + 0 + 1 + 0 ≤ 9223372036854775807) = true := decide_eq_true c27
            try have c27b2 : (9223372036854775807 < 2 + 0 + 1 + 0) = False := eq_false (Nat.not_lt.2 c27)
            by_cases c28 : 2 + 0 + 1 + 0 + 1 ≤ 9223372036854775807
            · rw [if_pos c28] at H
              have c28b0 := eq_true c28
              have c28b1 : decide (2 + 0 + 1 + 0 + 1 ≤ 9223372036854775807) = true := decide_eq_true c28
              try have c28b2 : (9223372036854775807 < 2 + 0 + 1 + 0 + 1) = False := eq_false (Nat.not_lt.2 c28)
              obtain rfl := Option.some.inj H
              go_enter Tryd.func77, Tryd.ntmps77
              go_wp2
              go_ret
              exact ⟨by first | rfl | (simp [errW_none, errW_some] <;> rfl) | (simp [*, errW_none, errW_some] <;> rfl), by repeat (first | (with_reducible first | exact HB.out | apply below_alloc | apply Go.Proofs.YtplmmblofhhikaaDoor.Ext.below_bytes | apply pw_below_drewN | apply below_drew1) | exact HB.out)⟩
            · rw [if_neg c28] at H
              exact absurd H (by simp)
          · rw [if_neg c27] at H
            exact absurd H (by simp)
        · rw [if_neg c26] at H
          exact absurd H (by simp)
      · rw [if_neg c25] at H
        exact absurd H (by simp)

/-! ### xansi_SetTopBottomMargins: function 78 -/
def xansi_SetTopBottomMargins.f (a0 : Int) (a1 : Int) : Option (ByteArray) := if a0 > 0 then ((strconv_Itoa.f a0).bind fun t143 => (if a1 > 0 then ((strconv_Itoa.f a1).bind fun t144 => (if 2 + t143.size ≤ 9223372036854775807 then (if 2 + t143.size + 1 ≤ 9223372036854775807 then (if 2 + t143.size + 1 + t144.size ≤ 9223372036854775807 then (if 2 + t143.size + 1 + t144.size + 1 ≤ 9223372036854775807 then (some (((((⟨#[27, 91]⟩ : ByteArray) ++ t143) ++ (⟨#[59]⟩ : ByteArray)) ++ t144) ++ (⟨#[114]⟩ : ByteArray))) else (none)) else (none)) else (none)) else (none))) else (if 2 + t143.size ≤ 9223372036854775807 then (if 2 + t143.size + 1 ≤ 9223372036854775807 then (if 2 + t143.size + 1 + 0 ≤ 9223372036854775807 then (if 2 + t143.size + 1 + 0 + 1 ≤ 9223372036854775807 then (some (((((⟨#[27, 91]⟩ : ByteArray) ++ t143) ++ (⟨#[59]⟩ : ByteArray)) ++ (⟨#[]⟩ : ByteArray)) ++ (⟨#[114]⟩ : ByteArray))) else (none)) else (none)) else (none)) else (none)))) else (if a1 > 0 then ((strconv_Itoa.f a1).bind fun t145 => (if 2 + 0 ≤ 9223372036854775807 then (if 2 + 0 + 1 ≤ 9223372036854775807 then (if 2 + 0 + 1 + t145.size ≤ 9223372036854775807 then (if 2 + 0 + 1 + t145.size + 1 ≤ 9223372036854775807 then (some (((((⟨#[27, 91]⟩ : ByteArray) ++ (⟨#[]⟩ : ByteArray)) ++ (⟨#[59]⟩ : ByteArray)) ++ t145) ++ (⟨#[114]⟩ : ByteArray))) else (none)) else (none)) else (none)) else (none))) else (if 2 + 0 ≤ 9223372036854775807 then (if 2 + 0 + 1 ≤ 9223372036854775807 then (if 2 + 0 + 1 + 0 ≤ 9223372036854775807 then (if 2 + 0 + 1 + 0 + 1 ≤ 9223372036854775807 then (some (((((⟨#[27, 91]⟩ : ByteArray) ++ (⟨#[]⟩ : ByteArray)) ++ (⟨#[59]⟩ : ByteArray)) ++ (⟨#[]⟩ : ByteArray)) ++ (⟨#[114]⟩ : ByteArray))) else (none)) else (none)) else (none)) else (none)))
set_option maxHeartbeats 8000000 in
set_option maxRecDepth 100000 in
theorem xansi_SetTopBottomMargins.calls (a0 : Int) (a1 : Int) (r : ByteArray) (w : World) (hLD : Laid w) (h : xansi_SetTopBottomMargins.f a0 a1 = some r) :
    Calls Tryd.prog 78 #[.int .i64 a0, .int .i64 a1] w fun e w' => e = .returned (.string r) ∧ Below w.heap.size w w' := by
  have HLD := Aside0.mk hLD
  clear hLD
  have HB := Aside0.mk (Below.refl w.heap.size w)
  have H : (if a0 > 0 then ((strconv_Itoa.f a0).bind fun t143 => (if a1 > 0 then ((strconv_Itoa.f a1).bind fun t144 => (if 2 + t143.size ≤ 9223372036854775807 then (if 2 + t143.size + 1 ≤ 9223372036854775807 then (if 2 + t143.size + 1 + t144.size ≤ 9223372036854775807 then (if 2 + t143.size + 1 + t144.size + 1 ≤ 9223372036854775807 then (some (((((⟨#[27, 91]⟩ : ByteArray) ++ t143) ++ (⟨#[59]⟩ : ByteArray)) ++ t144) ++ (⟨#[114]⟩ : ByteArray))) else (none)) else (none)) else (none)) else (none))) else (if 2 + t143.size ≤ 9223372036854775807 then (if 2 + t143.size + 1 ≤ 9223372036854775807 then (if 2 + t143.size + 1 + 0 ≤ 9223372036854775807 then (if 2 + t143.size + 1 + 0 + 1 ≤ 9223372036854775807 then (some (((((⟨#[27, 91]⟩ : ByteArray) ++ t143) ++ (⟨#[59]⟩ : ByteArray)) ++ (⟨#[]⟩ : ByteArray)) ++ (⟨#[114]⟩ : ByteArray))) else (none)) else (none)) else (none)) else (none)))) else (if a1 > 0 then ((strconv_Itoa.f a1).bind fun t145 => (if 2 + 0 ≤ 9223372036854775807 then (if 2 + 0 + 1 ≤ 9223372036854775807 then (if 2 + 0 + 1 + t145.size ≤ 9223372036854775807 then (if 2 + 0 + 1 + t145.size + 1 ≤ 9223372036854775807 then (some (((((⟨#[27, 91]⟩ : ByteArray) ++ (⟨#[]⟩ : ByteArray)) ++ (⟨#[59]⟩ : ByteArray)) ++ t145) ++ (⟨#[114]⟩ : ByteArray))) else (none)) else (none)) else (none)) else (none))) else (if 2 + 0 ≤ 9223372036854775807 then (if 2 + 0 + 1 ≤ 9223372036854775807 then (if 2 + 0 + 1 + 0 ≤ 9223372036854775807 then (if 2 + 0 + 1 + 0 + 1 ≤ 9223372036854775807 then (some (((((⟨#[27, 91]⟩ : ByteArray) ++ (⟨#[]⟩ : ByteArray)) ++ (⟨#[59]⟩ : ByteArray)) ++ (⟨#[]⟩ : ByteArray)) ++ (⟨#[114]⟩ : ByteArray))) else (none)) else (none)) else (none)) else (none)))) = some r := h
  clear h
  by_cases c3 : a0 > 0
  · rw [if_pos c3] at H
    have c3b0 : decide (0 < a0) = true := decide_eq_true c3
    clear c3
    replace H := Option.bind_eq_some_iff.mp H
    obtain ⟨t143, A40, H⟩ := H
    replace H : (if a1 > 0 then ((strconv_Itoa.f a1).bind fun t144 => (if 2 + t143.size ≤ 9223372036854775807 then (if 2 + t143.size + 1 ≤ 9223372036854775807 then (if 2 + t143.size + 1 + t144.size ≤ 9223372036854775807 then (if 2 + t143.size + 1 + t144.size + 1 ≤ 9223372036854775807 then (some (((((⟨#[27, 91]⟩ : ByteArray) ++ t143) ++ (⟨#[59]⟩ : ByteArray)) ++ t144) ++ (⟨#[114]⟩ : ByteArray))) else (none)) else (none)) else (none)) else (none))) else (if 2 + t143.size ≤ 9223372036854775807 then (if 2 + t143.size + 1 ≤ 9223372036854775807 then (if 2 + t143.size + 1 + 0 ≤ 9223372036854775807 then (if 2 + t143.size + 1 + 0 + 1 ≤ 9223372036854775807 then (some (((((⟨#[27, 91]⟩ : ByteArray) ++ t143) ++ (⟨#[59]⟩ : ByteArray)) ++ (⟨#[]⟩ : ByteArray)) ++ (⟨#[114]⟩ : ByteArray))) else (none)) else (none)) else (none)) else (none))) = some r := H
    have A4 := Aside0.mk A40
    clear A40
    by_cases c5 : a1 > 0
    · rw [if_pos c5] at H
      have c5b0 : decide (0 < a1) = true := decide_eq_true c5
      clear c5
      replace H := Option.bind_eq_some_iff.mp H
      obtain ⟨t144, A60, H⟩ := H
      replace H : (if 2 + t143.size ≤ 9223372036854775807 then (if 2 + t143.size + 1 ≤ 9223372036854775807 then (if 2 + t143.size + 1 + t144.size ≤ 9223372036854775807 then (if 2 + t143.size + 1 + t144.size + 1 ≤ 9223372036854775807 then (some (((((⟨#[27, 91]⟩ : ByteArray) ++ t143) ++ (⟨#[59]⟩ : ByteArray)) ++ t144) ++ (⟨#[114]⟩ : ByteArray))) else (none)) else (none)) else (none)) else (none)) = some r := H
      have A6 := Aside0.mk A60
      clear A60
      by_cases c7 : 2 + t143.size ≤ 9223372036854775807
      · rw [if_pos c7] at H
        have c7b0 := eq_true c7
        have c7b1 : decide (2 + t143.size ≤ 9223372036854775807) = true := decide_eq_true c7
        try have c7b2 : (9223372036854775807 < 2 + t143.size) = False := eq_false (Nat.not_lt.2 c7)
        by_cases c8 : 2 + t143.size + 1 ≤ 9223372036854775807
        · rw [if_pos c8] at H
          have c8b0 := eq_true c8
          have c8b1 : decide (2 + t143.size + 1 ≤ 9223372036854775807) = true := decide_eq_true c8
          try have c8b2 : (9223372036854775807 < 2 + t143.size + 1) = False := eq_false (Nat.not_lt.2 c8)
          by_cases c9 : 2 + t143.size + 1 + t144.size ≤ 9223372036854775807
          · rw [if_pos c9] at H
            have c9b0 := eq_true c9
            have c9b1 : decide (2 + t143.size + 1 + t144.size ≤ 9223372036854775807) = true := decide_eq_true c9
            try have c9b2 : (9223372036854775807 < 2 + t143.size + 1 + t144.size) = False := eq_false (Nat.not_lt.2 c9)
            by_cases c10 : 2 + t143.size + 1 + t144.size + 1 ≤ 9223372036854775807
            · rw [if_pos c10] at H
              have c10b0 := eq_true c10
              have c10b1 : decide (2 + t143.size + 1 + t144.size + 1 ≤ 9223372036854775807) = true := decide_eq_true c10
              try have c10b2 : (9223372036854775807 < 2 + t143.size + 1 + t144.size + 1) = False := eq_false (Nat.not_lt.2 c10)
              obtain rfl := Option.some.inj H
              go_enter Tryd.func78, Tryd.ntmps78
              go_wp2_with (first | ((with_reducible refine gate_callee (f := 109) rfl ?_); refine goesL_ (some 10) rfl rfl Tryd.func109 (by kernel_rfl) rfl #[.int .i64 a0] rfl (by (try simp only [List.map_toArray, List.map_cons, List.map_nil]); first | done | rfl | (simp only [List.length_drop, List.length_take]; rfl) | (simp [Act.eval, *]; done) | (simp [Act.eval, *]; unfold wrap64; omega)) ?_; (with_reducible refine (strconv_Itoa.calls a0 t143 _ ?side1 A4.out).mono ?_); (case side1 => exact HLD.out.below (by repeat (first | (with_reducible first | exact HB.out | apply below_alloc | apply Go.Proofs.YtplmmblofhhikaaDoor.Ext.below_bytes | apply pw_below_drewN | apply below_drew1) | exact HB.out))); rintro e w11 ⟨rfl, hb⟩; refine ⟨_, rfl, ?_⟩; have n0_ := Aside0.mk (below_step (by repeat (first | (with_reducible first | exact HB.out | apply below_alloc | apply Go.Proofs.YtplmmblofhhikaaDoor.Ext.below_bytes | apply pw_below_drewN | apply below_drew1) | exact HB.out)) hb); clear HB; have HB := n0_; clear n0_; (try clear hb); (try clear hb2); (try clear hk); (try clear hi)) | ((with_reducible refine gate_callee (f := 109) rfl ?_); refine goesL_ (some 14) rfl rfl Tryd.func109 (by kernel_rfl) rfl #[.int .i64 a1] rfl (by (try simp only [List.map_toArray, List.map_cons, List.map_nil]); first | done | rfl | (simp only [List.length_drop, List.length_take]; rfl) | (simp [Act.eval, *]; done) | (simp [Act.eval, *]; unfold wrap64; omega)) ?_; (with_reducible refine (strconv_Itoa.calls a1 t144 _ ?side1 A6.out).mono ?_); (case side1 => exact HLD.out.below (by repeat (first | (with_reducible first | exact HB.out | apply below_alloc | apply Go.Proofs.YtplmmblofhhikaaDoor.Ext.below_bytes | apply pw_below_drewN | apply below_drew1) | exact HB.out))); rintro e w12 ⟨rfl, hb⟩; refine ⟨_, rfl, ?_⟩; have n0_ := Aside0.mk (below_step (by repeat (first | (with_reducible first | exact HB.out | apply below_alloc | apply Go.Proofs.YtplmmblofhhikaaDoor.Ext.below_bytes | apply pw_below_drewN | apply below_drew1) | exact HB.out)) hb); clear HB; have HB := n0_; clear n0_; (try clear hb); (try clear hb2); (try clear hk); (try clear hi)))
              go_ret
              exact ⟨by first | rfl | (simp [errW_none, errW_some] <;> rfl) | (simp [*, errW_none, errW_some] <;> rfl), by repeat (first | (with_reducible first | exact HB.out | apply below_alloc | apply Go.Proofs.YtplmmblofhhikaaDoor.Ext.below_bytes | apply pw_below_drewN | apply below_drew1) | exact HB.out)⟩
            · rw [if_neg c10] at H
              exact absurd H (by simp)
          · rw [if_neg c9] at H
            exact absurd H (by simp)
        · rw [if_neg c8] at H
          exact absurd H (by simp)
      · rw [if_neg c7] at H
        exact absurd H (by simp)
    · rw [if_neg c5] at H
      have c5b0 : decide (0 < a1) = false := decide_eq_false c5
      clear c5
      by_cases c13 : 2 + t143.size ≤ 9223372036854775807
      · rw [if_pos c13] at H
        have c13b0 := eq_true c13
        have c13b1 : decide (2 + t143.size ≤ 9223372036854775807) = true := decide_eq_true c13
        try have c13b2 : (9223372036854775807 < 2 + t143.size) = False := eq_false (Nat.not_lt.2 c13)
        by_cases c14 : 2 + t143.size + 1 ≤ 9223372036854775807
        · rw [if_pos c14] at H
          have c14b0 := eq_true c14
          have c14b1 : decide (2 + t143.size + 1 ≤ 9223372036854775807) = true := decide_eq_true c14
          try have c14b2 : (9223372036854775807 < 2 + t143.size + 1) = False := eq_false (Nat.not_lt.2 c14)
          by_cases c15 : 2 + t143.size + 1 + 0 ≤ 9223372036854775807
          · rw [if_pos c15] at H
            have c15b0 := eq_true c15
            have c15b1 : decide (2 + t143.size + 1 + 0 ≤ 9223372036854775807) = true := decide_eq_true c15
            try have c15b2 : (9223372036854775807 < 2 + t143.size + 1 + 0) = False := eq_false (Nat.not_lt.2 c15)
            by_cases c16 : 2 + t143.size + 1 + 0 + 1 ≤ 9223372036854775807
            · rw [if_pos c16] at H
              have c16b0 := eq_true c16
              have c16b1 : decide (2 + t143.size + 1 + 0 + 1 ≤ 9223372036854775807) = true := decide_eq_true c16
              try have c16b2 : (9223372036854775807 < 2 + t143.size + 1 + 0 + 1) = False := eq_false (Nat.not_lt.2 c16)
              obtain rfl := Option.some.inj H
              go_enter Tryd.func78, Tryd.ntmps78
              go_wp2_with (first | ((with_reducible refine gate_callee (f := 109) rfl ?_); refine goesL_ (some 10) rfl rfl Tryd.func109 (by kernel_rfl) rfl #[.int .i64 a0] rfl (by (try simp only [List.map_toArray, List.map_cons, List.map_nil]); first | done | rfl | (simp only [List.length_drop, List.length_take]; rfl) | (simp [Act.eval, *]; done) | (simp [Act.eval, *]; unfold wrap64; omega)) ?_; (with_reducible refine (strconv_Itoa.calls a0 t143 _ ?side1 A4.out).mono ?_); (case side1 => exact HLD.out.below (by repeat (first | (with_reducible first | exact HB.out | apply below_alloc | apply Go.Proofs.YtplmmblofhhikaaDoor.Ext.below_bytes | apply pw_below_drewN | apply below_drew1) | exact HB.out))); rintro e w17 ⟨rfl, hb⟩; refine ⟨_, rfl, ?_⟩; have n0_ := Aside0.mk (below_step (by repeat (first | (with_reducible first | exact HB.out | apply below_alloc | apply Go.Proofs.YtplmmblofhhikaaDoor.Ext.below_bytes | apply pw_below_drewN | apply below_drew1) | exact HB.out)) hb); clear HB; have HB := n0_; clear n0_; (try clear hb); (try clear hb2); (try clear hk); (try clear hi)))
              go_ret
              exact ⟨by first | rfl | (simp [errW_none, errW_some] <;> rfl) | (simp [*, errW_none, errW_some] <;> rfl), by repeat (first | (with_reducible first | exact HB.out | apply below_alloc | apply Go.Proofs.YtplmmblofhhikaaDoor.Ext.below_bytes | apply pw_below_drewN | apply below_drew1) | exact HB.out)⟩
            · rw [if_neg c16] at H
              exact absurd H (by simp)
          · rw [if_neg c15] at H
            exact absurd H (by simp)
        · rw [if_neg c14] at H
          exact absurd H (by simp)
      · rw [if_neg c13] at H
        exact absurd H (by simp)
  · rw [if_neg c3] at H
    have c3b0 : decide (0 < a0) = false := decide_eq_false c3
    clear c3
    by_cases c18 : a1 > 0
    · rw [if_pos c18] at H
      have c18b0 : decide (0 < a1) = true := decide_eq_true c18
      clear c18
      replace H := Option.bind_eq_some_iff.mp H
      obtain ⟨t145, A190, H⟩ := H
      replace H : (if 2 + 0 ≤ 9223372036854775807 then (if 2 + 0 + 1 ≤ 9223372036854775807 then (if 2 + 0 + 1 + t145.size ≤ 9223372036854775807 then (if 2 + 0 + 1 + t145.size + 1 ≤ 9223372036854775807 then (some (((((⟨#[27, 91]⟩ : ByteArray) ++ (⟨#[]⟩ : ByteArray)) ++ (⟨#[59]⟩ : ByteArray)) ++ t145) ++ (⟨#[114]⟩ : ByteArray))) else (none)) else (none)) else (none)) else (none)) = some r := H
      have A19 := Aside0.mk A190
      clear A190
      by_cases c20 : 2 + 0 ≤ 9223372036854775807
      · rw [if_pos c20] at H
        have c20b0 := eq_true c20
        have c20b1 : decide (2 + 0 ≤ 9223372036854775807) = true := decide_eq_true c20
        try have c20b2 : (9223372036854775807 < 2 + 0) = False := eq_false (Nat.not_lt.2 c20)
        by_cases c21 : 2 + 0 + 1 ≤ 9223372036854775807
        · rw [if_pos c21] at H
          have c21b0 := eq_true c21
          have c21b1 : decide (2 + 0 + 1 ≤ 9223372036854775807) = true := decide_eq_true c21
          try have c21b2 : (9223372036854775807 < 2 + 0 + 1) = False := eq_false (Nat.not_lt.2 c21)
          by_cases c22 : 2 + 0 + 1 + t145.size ≤ 9223372036854775807
          · rw [if_pos c22] at H
            have c22b0 := eq_true c22
            have c22b1 : decide (2 + 0 + 1 + t145.size ≤ 9223372036854775807) = true := decide_eq_true c22
            try have c22b2 : (9223372036854775807 < 2 + 0 + 1 + t145.size) = False := eq_false (Nat.not_lt.2 c22)
            by_cases c23 : 2 + 0 + 1 + t145.size + 1 ≤ 9223372036854775807
            · rw [if_pos c23] at H
              have c23b0 := eq_true c23
              have c23b1 : decide (2 + 0 + 1 + t145.size + 1 ≤ 9223372036854775807) = true := decide_eq_true c23
              try have c23b2 : (9223372036854775807 < 2 + 0 + 1 + t145.size + 1) = False := eq_false (Nat.not_lt.2 c23)
              obtain rfl := Option.some.inj H
              go_enter Tryd.func78, Tryd.ntmps78
              go_wp2_with (first | ((with_reducible refine gate_callee (f := 109) rfl ?_); refine goesL_ (some 14) rfl rfl Tryd.func109 (by kernel_rfl) rfl #[.int .i64 a1] rfl (by (try simp only [List.map_toArray, List.map_cons, List.map_nil]); first | done | rfl | (simp only [List.length_drop, List.length_take]; rfl) | (simp [Act.eval, *]; done) | (simp [Act.eval, *]; unfold wrap64; omega)) ?_; (with_reducible refine (strconv_Itoa.calls a1 t145 _ ?side1 A19.out).mono ?_); (case side1 => exact HLD.out.below (by repeat (first | (with_reducible first | exact HB.out | apply below_alloc | apply Go.Proofs.YtplmmblofhhikaaDoor.Ext.below_bytes | apply pw_below_drewN | apply below_drew1) | exact HB.out))); rintro e w24 ⟨rfl, hb⟩; refine ⟨_, rfl, ?_⟩; have n0_ := Aside0.mk (below_step (by repeat (first | (with_reducible first | exact HB.out | apply below_alloc | apply Go.Proofs.YtplmmblofhhikaaDoor.Ext.below_bytes | apply pw_below_drewN | apply below_drew1) | exact HB.out)) hb); clear HB; have HB := n0_; clear n0_; (try clear hb); (try clear hb2); (try clear hk); (try clear hi)))
              go_ret
              exact ⟨by first | rfl | (simp [errW_none, errW_some] <;> rfl) | (simp [*, errW_none, errW_some] <;> rfl), by repeat (first | (with_reducible first | exact HB.out | apply below_alloc | apply Go.Proofs.YtplmmblofhhikaaDoor.Ext.below_bytes | apply pw_below_drewN | apply below_drew1) | exact HB.out)⟩
            · rw [if_neg c23] at H
              exact absurd H (by simp)
          · rw [if_neg c22] at H
            exact absurd H (by simp)
        · rw [if_neg c21] at H
          exact absurd H (by simp)
      · rw [if_neg c20] at H
        exact absurd H (by simp)
    · rw [if_neg c18] at H
      have c18b0 : decide (0 < a1) = false := decide_eq_false c18
      clear c18
      by_cases c25 : 2 + 0 ≤ 9223372036854775807
      · rw [if_pos c25] at H
        have c25b0 := eq_true c25
        have c25b1 : decide (2 + 0 ≤ 9223372036854775807) = true := decide_eq_true c25
        try have c25b2 : (9223372036854775807 < 2 + 0) = False := eq_false (Nat.not_lt.2 c25)
        by_cases c26 : 2 + 0 + 1 ≤ 9223372036854775807
        · rw [if_pos c26] at H
          have c26b0 := eq_true c26
          have c26b1 : decide (2 + 0 + 1 ≤ 9223372036854775807) = true := decide_eq_true c26
          try have c26b2 : (9223372036854775807 < 2 + 0 + 1) = False := eq_false (Nat.not_lt.2 c26)
          by_cases c27 : 2 + 0 + 1 + 0 ≤ 9223372036854775807
          · rw [if_pos c27] at H
            have c27b0 := eq_true c27
            have c27b1 : decide (2 + 0 + 1 + 0 ≤ 9223372036854775807) = true := decide_eq_true c27
            try have c27b2 : (9223372036854775807 < 2 + 0 + 1 + 0) = False := eq_false (Nat.not_lt.2 c27)
            by_cases c28 : 2 + 0 + 1 + 0 + 1 ≤ 9223372036854775807
            · rw [if_pos c28] at H
              have c28b0 := eq_true c28
              have c28b1 : decide (2 + 0 + 1 + 0 + 1 ≤ 9223372036854775807) = true := decide_eq_true c28
              try have c28b2 : (9223372036854775807 < 2 + 0 + 1 + 0 + 1) = False := eq_false (Nat.not_lt.2 c28)
              obtain rfl := Option.some.inj H
              go_enter Tryd.func78, Tryd.ntmps78
              go_wp2
              go_ret
              exact ⟨by first | rfl | (simp [errW_none, errW_some] <;> rfl) | (simp [*, errW_none, errW_some] <;> rfl), by repeat (first | (with_reducible first | exact HB.out | apply below_alloc | apply Go.Proofs.YtplmmblofhhikaaDoor.Ext.below_bytes | apply pw_below_drewN | apply below_drew1) | exact HB.out)⟩
            · rw [if_neg c28] at H
              exact absurd H (by simp)
          · rw [if_neg c27] at H
            exact absurd H (by simp)
        · rw [if_neg c26] at H
          exact absurd H (by simp)
      · rw [if_neg c25] at H
        exact absurd H (by simp)

/-! ### xansi_SetLeftRightMargins: function 79 -/
def xansi_SetLeftRightMargins.f (a0 : Int) (a1 : Int) : Option (ByteArray) := if a0 > 0 then ((strconv_Itoa.f a0).bind fun t146 => (if a1 > 0 then ((strconv_Itoa.f a1).bind fun t147 => (if 2 + t146.size ≤ 9223372036854775807 then (if 2 + t146.size + 1 ≤ 9223372036854775807 then (if 2 + t146.size + 1 + t147.size ≤ 9223372036854775807 then (if 2 + t146.size + 1 + t147.size + 1 ≤ 9223372036854775807 then (some (((((⟨#[27, 91]⟩ : ByteArray) ++ t146) ++ (⟨#[59]⟩ : ByteArray)) ++ t147) ++ (⟨#[115]⟩ : ByteArray))) else (none)) else (none)) else (none)) else (none))) else (if 2 + t146.size ≤ 9223372036854775807 then (if 2 + t146.size + 1 ≤ 9223372036854775807 then (if 2 + t146.size + 1 + 0 ≤ 9223372036854775807 then (if 2 + t146.size + 1 + 0 + 1 ≤ 9223372036854775807 then (some (((((⟨#[27, 91]⟩ : ByteArray) ++ t146) ++ (⟨#[59]⟩ : ByteArray)) ++ (⟨#[]⟩ : ByteArray)) ++ (⟨#[115]⟩ : ByteArray))) else (none)) else (none)) else (none)) else (none)))) else (if a1 > 0 then ((strconv_Itoa.f a1).bind fun t148 => (if 2 + 0 ≤ 9223372036854775807 then (if 2 + 0 + 1 ≤ 9223372036854775807 then (if 2 + 0 + 1 + t148.size ≤ 9223372036854775807 then (if 2 + 0 + 1 + t148.size + 1 ≤ 9223372036854775807 then (some (((((⟨#[27, 91]⟩ : ByteArray) ++ (⟨#[]⟩ : ByteArray)) ++ (⟨#[59]⟩ : ByteArray)) ++ t148) ++ (⟨#[115]⟩ : ByteArray))) else (none)) else (none)) else (none)) else (none))) else (if 2 + 0 ≤ 9223372036854775807 then (if 2 + 0 + 1 ≤ 9223372036854775807 then (if 2 + 0 + 1 + 0 ≤ 9223372036854775807 then (if 2 + 0 + 1 + 0 + 1 ≤ 9223372036854775807 then (some (((((⟨#[27, 91]⟩ : ByteArray) ++ (⟨#[]⟩ : ByteArray)) ++ (⟨#[59]⟩ : ByteArray)) ++ (⟨#[]⟩ : ByteArray)) ++ (⟨#[115]⟩ : ByteArray))) else (none)) else (none)) else (none)) else (none)))
set_option maxHeartbeats 8000000 in
set_option maxRecDepth 100000 in
theorem xansi_SetLeftRightMargins.calls (a0 : Int) (a1 : Int) (r : ByteArray) (w : World) (hLD : Laid w) (h : xansi_SetLeftRightMargins.f a0 a1 = some r) :
    Calls Tryd.prog 79 #[.int .i64 a0, .int .i64 a1] w fun e w' => e = .returned (.string r) ∧ Below w.heap.size w w' := by
  have HLD := Aside0.mk hLD
  clear hLD
  have HB := Aside0.mk (Below.refl w.heap.size w)
  have H : (if a0 > 0 then ((strconv_Itoa.f a0).bind fun t146 => (if a1 > 0 then ((strconv_Itoa.f a1).bind fun t147 => (if 2 + t146.size ≤ 9223372036854775807 then (if 2 + t146.size + 1 ≤ 9223372036854775807 then (if 2 + t146.size + 1 + t147.size ≤ 9223372036854775807 then (if 2 + t146.size + 1 + t147.size + 1 ≤ 9223372036854775807 then (some (((((⟨#[27, 91]⟩ : ByteArray) ++ t146) ++ (⟨#[59]⟩ : ByteArray)) ++ t147) ++ (⟨#[115]⟩ : ByteArray))) else (none)) else (none)) else (none)) else (none))) else (if 2 + t146.size ≤ 9223372036854775807 then (if 2 + t146.size + 1 ≤ 9223372036854775807 then (if 2 + t146.size + 1 + 0 ≤ 9223372036854775807 then (if 2 + t146.size + 1 + 0 + 1 ≤ 9223372036854775807 then (some (((((⟨#[27, 91]⟩ : ByteArray) ++ t146) ++ (⟨#[59]⟩ : ByteArray)) ++ (⟨#[]⟩ : ByteArray)) ++ (⟨#[115]⟩ : ByteArray))) else (none)) else (none)) else (none)) else (none)))) else (if a1 > 0 then ((strconv_Itoa.f a1).bind fun t148 => (if 2 + 0 ≤ 9223372036854775807 then (if 2 + 0 + 1 ≤ 9223372036854775807 then (if 2 + 0 + 1 + t148.size ≤ 9223372036854775807 then (if 2 + 0 + 1 + t148.size + 1 ≤ 9223372036854775807 then (some (((((⟨#[27, 91]⟩ : ByteArray) ++ (⟨#[]⟩ : ByteArray)) ++ (⟨#[59]⟩ : ByteArray)) ++ t148) ++ (⟨#[115]⟩ : ByteArray))) else (none)) else (none)) else (none)) else (none))) else (if 2 + 0 ≤ 9223372036854775807 then (if 2 + 0 + 1 ≤ 9223372036854775807 then (if 2 + 0 + 1 + 0 ≤ 9223372036854775807 then (if 2 + 0 + 1 + 0 + 1 ≤ 9223372036854775807 then (some (((((⟨#[27, 91]⟩ : ByteArray) ++ (⟨#[]⟩ : ByteArray)) ++ (⟨#[59]⟩ : ByteArray)) ++ (⟨#[]⟩ : ByteArray)) ++ (⟨#[115]⟩ : ByteArray))) else (none)) else (none)) else (none)) else (none)))) = some r := h
  clear h
  by_cases c3 : a0 > 0
  · rw [if_pos c3] at H
    have c3b0 : decide (0 < a0) = true := decide_eq_true c3
    clear c3
    replace H := Option.bind_eq_some_iff.mp H
    obtain ⟨t146, A40, H⟩ := H
    replace H : (if a1 > 0 then ((strconv_Itoa.f a1).bind fun t147 => (if 2 + t146.size ≤ 9223372036854775807 then (if 2 + t146.size + 1 ≤ 9223372036854775807 then (if 2 + t146.size + 1 + t147.size ≤ 9223372036854775807 then (if 2 + t146.size + 1 + t147.size + 1 ≤ 9223372036854775807 then (some (((((⟨#[27, 91]⟩ : ByteArray) ++ t146) ++ (⟨#[59]⟩ : ByteArray)) ++ t147) ++ (⟨#[115]⟩ : ByteArray))) else (none)) else (none)) else (none)) else (none))) else (if 2 + t146.size ≤ 9223372036854775807 then (if 2 + t146.size + 1 ≤ 9223372036854775807 then (if 2 + t146.size + 1 + 0 ≤ 9223372036854775807 then (if 2 + t146.size + 1 + 0 + 1 ≤ 9223372036854775807 then (some (((((⟨#[27, 91]⟩ : ByteArray) ++ t146) ++ (⟨#[59]⟩ : ByteArray)) ++ (⟨#[]⟩ : ByteArray)) ++ (⟨#[115]⟩ : ByteArray))) else (none)) else (none)) else (none)) else (none))) = some r := H
    have A4 := Aside0.mk A40
    clear A40
    by_cases c5 : a1 > 0
    · rw [if_pos c5] at H
      have c5b0 : decide (0 < a1) = true := decide_eq_true c5
      clear c5
      replace H := Option.bind_eq_some_iff.mp H
      obtain ⟨t147, A60, H⟩ := H
      replace H : (if 2 + t146.size ≤ 9223372036854775807 then (if 2 + t146.size + 1 ≤ 9223372036854775807 then (if 2 + t146.size + 1 + t147.size ≤ 9223372036854775807 then (if 2 + t146.size + 1 + t147.size + 1 ≤ 9223372036854775807 then (some (((((⟨#[27, 91]⟩ : ByteArray) ++ t146) ++ (⟨#[59]⟩ : ByteArray)) ++ t147) ++ (⟨#[115]⟩ : ByteArray))) else (none)) else (none)) else (none)) else (none)) = some r := H
      have A6 := Aside0.mk A60
      clear A60
      by_cases c7 : 2 + t146.size ≤ 9223372036854775807
      · rw [if_pos c7] at H
        have c7b0 := eq_true c7
        have c7b1 : decide (2 + t146.size ≤ 9223372036854775807) = true := decide_eq_true c7
        try have c7b2 : (9223372036854775807 < 2 + t146.size) = False := eq_false (Nat.not_lt.2 c7)
        by_cases c8 : 2 + t146.size + 1 ≤ 9223372036854775807
        · rw [if_pos c8] at H
          have c8b0 := eq_true c8
          have c8b1 : decide (2 + t146.size + 1 ≤ 9223372036854775807) = true := decide_eq_true c8
          try have c8b2 : (9223372036854775807 < 2 + t146.size + 1) = False := eq_false (Nat.not_lt.2 c8)
          by_cases c9 : 2 + t146.size + 1 + t147.size ≤ 9223372036854775807
          · rw [if_pos c9] at H
            have c9b0 := eq_true c9
            have c9b1 : decide (2 + t146.size + 1 + t147.size ≤ 9223372036854775807) = true := decide_eq_true c9
            try have c9b2 : (9223372036854775807 < 2 + t146.size + 1 + t147.size) = False := eq_false (Nat.not_lt.2 c9)
            by_cases c10 : 2 + t146.size + 1 + t147.size + 1 ≤ 9223372036854775807
            · rw [if_pos c10] at H
              have c10b0 := eq_true c10
              have c10b1 : decide (2 + t146.size + 1 + t147.size + 1 ≤ 9223372036854775807) = true := decide_eq_true c10
              try have c10b2 : (9223372036854775807 < 2 + t146.size + 1 + t147.size + 1) = False := eq_false (Nat.not_lt.2 c10)
              obtain rfl := Option.some.inj H
              go_enter Tryd.func79, Tryd.ntmps79
              go_wp2_with (first | ((with_reducible refine gate_callee (f := 109) rfl ?_); refine goesL_ (some 10) rfl rfl Tryd.func109 (by kernel_rfl) rfl #[.int .i64 a0] rfl (by (try simp only [List.map_toArray, List.map_cons, List.map_nil]); first | done | rfl | (simp only [List.length_drop, List.length_take]; rfl) | (simp [Act.eval, *]; done) | (simp [Act.eval, *]; unfold wrap64; omega)) ?_; (with_reducible refine (strconv_Itoa.calls a0 t146 _ ?side1 A4.out).mono ?_); (case side1 => exact HLD.out.below (by repeat (first | (with_reducible first | exact HB.out | apply below_alloc | apply Go.Proofs.YtplmmblofhhikaaDoor.Ext.below_bytes | apply pw_below_drewN | apply below_drew1) | exact HB.out))); rintro e w11 ⟨rfl, hb⟩; refine ⟨_, rfl, ?_⟩; have n0_ := Aside0.mk (below_step (by repeat (first | (with_reducible first | exact HB.out | apply below_alloc | apply Go.Proofs.YtplmmblofhhikaaDoor.Ext.below_bytes | apply pw_below_drewN | apply below_drew1) | exact HB.out)) hb); clear HB; have HB := n0_; clear n0_; (try clear hb); (try clear hb2); (try clear hk); (try clear hi)) | ((with_reducible refine gate_callee (f := 109) rfl ?_); refine goesL_ (some 14) rfl rfl Tryd.func109 (by kernel_rfl) rfl #[.int .i64 a1] rfl (by (try simp only [List.map_toArray, List.map_cons, List.map_nil]); first | done | rfl | (simp only [List.length_drop, List.length_take]; rfl) | (simp [Act.eval, *]; done) | (simp [Act.eval, *]; unfold wrap64; omega)) ?_; (with_reducible refine (strconv_Itoa.calls a1 t147 _ ?side1 A6.out).mono ?_); (case side1 => exact HLD.out.below (by repeat (first | (with_reducible first | exact HB.out | apply below_alloc | apply Go.Proofs.YtplmmblofhhikaaDoor.Ext.below_bytes | apply pw_below_drewN | apply below_drew1) | exact HB.out))); rintro e w12 ⟨rfl, hb⟩; refine ⟨_, rfl, ?_⟩; have n0_ := Aside0.mk (below_step (by repeat (first | (with_reducible first | exact HB.out | apply below_alloc | apply Go.Proofs.YtplmmblofhhikaaDoor.Ext.below_bytes | apply pw_below_drewN | apply below_drew1) | exact HB.out)) hb); clear HB; have HB := n0_; clear n0_; (try clear hb); (try clear hb2); (try clear hk); (try clear hi)))
              go_ret
              exact ⟨by first | rfl | (simp [errW_none, errW_some] <;> rfl) | (simp [*, errW_none, errW_some] <;> rfl), by repeat (first | (with_reducible first | exact HB.out | apply below_alloc | apply Go.Proofs.YtplmmblofhhikaaDoor.Ext.below_bytes | apply pw_below_drewN | apply below_drew1) | exact HB.out)⟩
            · rw [if_neg c10] at H
              exact absurd H (by simp)
          · rw [if_neg c9] at H
            exact absurd H (by simp)
        · rw [if_neg c8] at H
          exact absurd H (by simp)
      · rw [if_neg c7] at H
        exact absurd H (by simp)
    · rw [if_neg c5] at H
      have c5b0 : decide (0 < a1) = false := decide_eq_false c5
      clear c5
      by_cases c13 : 2 + t146.size ≤ 9223372036854775807
      · rw [if_pos c13] at H
        have c13b0 := eq_true c13
        have c13b1 : decide (2 + t146.size ≤ 9223372036854775807) = true := decide_eq_true c13
        try have c13b2 : (9223372036854775807 < 2 + t146.size) = False := eq_false (Nat.not_lt.2 c13)
        by_cases c14 : 2 + t146.size + 1 ≤ 9223372036854775807
        · rw [if_pos c14] at H
          have c14b0 := eq_true c14
          have c14b1 : decide (2 + t146.size + 1 ≤ 9223372036854775807) = true := decide_eq_true c14
          try have c14b2 : (9223372036854775807 < 2 + t146.size + 1) = False := eq_false (Nat.not_lt.2 c14)
          by_cases c15 : 2 + t146.size + 1 + 0 ≤ 9223372036854775807
          · rw [if_pos c15] at H
            have c15b0 := eq_true c15
            have c15b1 : decide (2 + t146.size + 1 + 0 ≤ 9223372036854775807) = true := decide_eq_true c15
            try have c15b2 : (9223372036854775807 < 2 + t146.size + 1 + 0) = False := eq_false (Nat.not_lt.2 c15)
            by_cases c16 : 2 + t146.size + 1 + 0 + 1 ≤ 9223372036854775807
            · rw [if_pos c16] at H
              have c16b0 := eq_true c16
              have c16b1 : decide (2 + t146.size + 1 + 0 + 1 ≤ 9223372036854775807) = true := decide_eq_true c16
              try have c16b2 : (9223372036854775807 < 2 + t146.size + 1 + 0 + 1) = False := eq_false (Nat.not_lt.2 c16)
              obtain rfl := Option.some.inj H
              go_enter Tryd.func79, Tryd.ntmps79
              go_wp2_with (first | ((with_reducible refine gate_callee (f := 109) rfl ?_); refine goesL_ (some 10) rfl rfl Tryd.func109 (by kernel_rfl) rfl #[.int .i64 a0] rfl (by (try simp only [List.map_toArray, List.map_cons, List.map_nil]); first | done | rfl | (simp only [List.length_drop, List.length_take]; rfl) | (simp [Act.eval, *]; done) | (simp [Act.eval, *]; unfold wrap64; omega)) ?_; (with_reducible refine (strconv_Itoa.calls a0 t146 _ ?side1 A4.out).mono ?_); (case side1 => exact HLD.out.below (by repeat (first | (with_reducible first | exact HB.out | apply below_alloc | apply Go.Proofs.YtplmmblofhhikaaDoor.Ext.below_bytes | apply pw_below_drewN | apply below_drew1) | exact HB.out))); rintro e w17 ⟨rfl, hb⟩; refine ⟨_, rfl, ?_⟩; have n0_ := Aside0.mk (below_step (by repeat (first | (with_reducible first | exact HB.out | apply below_alloc | apply Go.Proofs.YtplmmblofhhikaaDoor.Ext.below_bytes | apply pw_below_drewN | apply below_drew1) | exact HB.out)) hb); clear HB; have HB := n0_; clear n0_; (try clear hb); (try clear hb2); (try clear hk); (try clear hi)))
              go_ret
              exact ⟨by first | rfl | (simp [errW_none, errW_some] <;> rfl) | (simp [*, errW_none, errW_some] <;> rfl), by repeat (first | (with_reducible first | exact HB.out | apply below_alloc | apply Go.Proofs.YtplmmblofhhikaaDoor.Ext.below_bytes | apply pw_below_drewN | apply below_drew1) | exact HB.out)⟩
            · rw [if_neg c16] at H
              exact absurd H (by simp)
          · rw [if_neg c15] at H
            exact absurd H (by simp)
        · rw [if_neg c14] at H
          exact absurd H (by simp)
      · rw [if_neg c13] at H
        exact absurd H (by simp)
  · rw [if_neg c3] at H
    have c3b0 : decide (0 < a0) = false := decide_eq_false c3
    clear c3
    by_cases c18 : a1 > 0
    · rw [if_pos c18] at H
      have c18b0 : decide (0 < a1) = true := decide_eq_true c18
      clear c18
      replace H := Option.bind_eq_some_iff.mp H
      obtain ⟨t148, A190, H⟩ := H
      replace H : (if 2 + 0 ≤ 9223372036854775807 then (if 2 + 0 + 1 ≤ 9223372036854775807 then (if 2 + 0 + 1 + t148.size ≤ 9223372036854775807 then (if 2 + 0 + 1 + t148.size + 1 ≤ 9223372036854775807 then (some (((((⟨#[27, 91]⟩ : ByteArray) ++ (⟨#[]⟩ : ByteArray)) ++ (⟨#[59]⟩ : ByteArray)) ++ t148) ++ (⟨#[115]⟩ : ByteArray))) else (none)) else (none)) else (none)) else (none)) = some r := H
      have A19 := Aside0.mk A190
      clear A190
      by_cases c20 : 2 + 0 ≤ 9223372036854775807
      · rw [if_pos c20] at H
        have c20b0 := eq_true c20
        have c20b1 : decide (2 + 0 ≤ 9223372036854775807) = true := decide_eq_true c20
        try have c20b2 : (9223372036854775807 < 2 + 0) = False := eq_false (Nat.not_lt.2 c20)
        by_cases c21 : 2 + 0 + 1 ≤ 9223372036854775807
        · rw [if_pos c21] at H
          have c21b0 := eq_true c21
          have c21b1 : decide (2 + 0 + 1 ≤ 9223372036854775807) = true := decide_eq_true c21
          try have c21b2 : (9223372036854775807 < 2 + 0 + 1) = False := eq_false (Nat.not_lt.2 c21)
          by_cases c22 : 2 + 0 + 1 + t148.size ≤ 9223372036854775807
          · rw [if_pos c22] at H
            have c22b0 := eq_true c22
            have c22b1 : decide (2 + 0 + 1 + t148.size ≤ 9223372036854775807) = true := decide_eq_true c22
            try have c22b2 : (9223372036854775807 < 2 + 0 + 1 + t148.size) = False := eq_false (Nat.not_lt.2 c22)
            by_cases c23 : 2 + 0 + 1 + t148.size + 1 ≤ 9223372036854775807
            · rw [if_pos c23] at H
              have c23b0 := eq_true c23
              have c23b1 : decide (2 + 0 + 1 + t148.size + 1 ≤ 9223372036854775807) = true := decide_eq_true c23
              try have c23b2 : (9223372036854775807 < 2 + 0 + 1 + t148.size + 1) = False := eq_false (Nat.not_lt.2 c23)
              obtain rfl := Option.some.inj H
              go_enter Tryd.func79, Tryd.ntmps79
              go_wp2_with (first | ((with_reducible refine gate_callee (f := 109) rfl ?_); refine goesL_ (some 14) rfl rfl Tryd.func109 (by kernel_rfl) rfl #[.int .i64 a1] rfl (by (try simp only [List.map_toArray, List.map_cons, List.map_nil]); first | done | rfl | (simp only [List.length_drop, List.length_take]; rfl) | (simp [Act.eval, *]; done) | (simp [Act.eval, *]; unfold wrap64; omega)) ?_; (with_reducible refine (strconv_Itoa.calls a1 t148 _ ?side1 A19.out).mono ?_); (case side1 => exact HLD.out.below (by repeat (first | (with_reducible first | exact HB.out | apply below_alloc | apply Go.Proofs.YtplmmblofhhikaaDoor.Ext.below_bytes | apply pw_below_drewN | apply below_drew1) | exact HB.out))); rintro e w24 ⟨rfl, hb⟩; refine ⟨_, rfl, ?_⟩; have n0_ := Aside0.mk (below_step (by repeat (first | (with_reducible first | exact HB.out | apply below_alloc | apply Go.Proofs.YtplmmblofhhikaaDoor.Ext.below_bytes | apply pw_below_drewN | apply below_drew1) | exact HB.out)) hb); clear HB; have HB := n0_; clear n0_; (try clear hb); (try clear hb2); (try clear hk); (try clear hi)))
              go_ret
              exact ⟨by first | rfl | (simp [errW_none, errW_some] <;> rfl) | (simp [*, errW_none, errW_some] <;> rfl), by repeat (first | (with_reducible first | exact HB.out | apply below_alloc | apply Go.Proofs.YtplmmblofhhikaaDoor.Ext.below_bytes | apply pw_below_drewN | apply below_drew1) | exact HB.out)⟩
            · rw [if_neg c23] at H
              exact absurd H (by simp)
          · rw [if_neg c22] at H
            exact absurd H (by simp)
        · rw [if_neg c21] at H
          exact absurd H (by simp)
      · rw [if_neg c20] at H
        exact absurd H (by simp)
    · rw [if_neg c18] at H
      have c18b0 : decide (0 < a1) = false := decide_eq_false c18
      clear c18
      by_cases c25 : 2 + 0 ≤ 9223372036854775807
      · rw [if_pos c25] at H
        have c25b0 := eq_true c25
        have c25b1 : decide (2 + 0 ≤ 9223372036854775807) = true := decide_eq_true c25
        try have c25b2 : (9223372036854775807 < 2 + 0) = False := eq_false (Nat.not_lt.2 c25)
        by_cases c26 : 2 + 0 + 1 ≤ 9223372036854775807
        · rw [if_pos c26] at H
          have c26b0 := eq_true c26
          have c26b1 : decide (2 + 0 + 1 ≤ 9223372036854775807) = true := decide_eq_true c26
          try have c26b2 : (9223372036854775807 < 2 + 0 + 1) = False := eq_false (Nat.not_lt.2 c26)
          by_cases c27 : 2 + 0 + 1 + 0 ≤ 9223372036854775807
          · rw [if_pos c27] at H
            have c27b0 := eq_true c27
            have c27b1 : decide (2 + 0 + 1 + 0 ≤ 9223372036854775807) = true := decide_eq_true c27
            try have c27b2 : (9223372036854775807 < 2 + 0 + 1 + 0) = False := eq_false (Nat.not_lt.2 c27)
            by_cases c28 : 2 + 0 + 1 + 0 + 1 ≤ 9223372036854775807
            · rw [if_pos c28] at H
              have c28b0 := eq_true c28
              have c28b1 : decide (2 + 0 + 1 + 0 + 1 ≤ 9223372036854775807) = true := decide_eq_true c28
              try have c28b2 : (9223372036854775807 < 2 + 0 + 1 + 0 + 1) = False := eq_false (Nat.not_lt.2 c28)
              obtain rfl := Option.some.inj H
              go_enter Tryd.func79, Tryd.ntmps79
              go_wp2
              go_ret
              exact ⟨by first | rfl | (simp [errW_none, errW_some] <;> rfl) | (simp [*, errW_none, errW_some] <;> rfl), by repeat (first | (with_reducible first | exact HB.out | apply below_alloc | apply Go.Proofs.YtplmmblofhhikaaDoor.Ext.below_bytes | apply pw_below_drewN | apply below_drew1) | exact HB.out)⟩
            · rw [if_neg c28] at H
              exact absurd H (by simp)
          · rw [if_neg c27] at H
            exact absurd H (by simp)
        · rw [if_neg c26] at H
          exact absurd H (by simp)
      · rw [if_neg c25] at H
        exact absurd H (by simp)

end Go.Proofs.YtplmmblofhhikaaDoor.PV
