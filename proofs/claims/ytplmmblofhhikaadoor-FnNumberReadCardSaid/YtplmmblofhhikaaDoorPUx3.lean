-- Written by wip/pp.py, a program of this session, out of the translation. Not trusted: Lean checks it.
import Derived.Test.YtplmmblofhhikaaDoorPUx0
namespace Go.Proofs.YtplmmblofhhikaaDoor.PU
open Go.RowKit Go.Proofs.YtplmmblofhhikaaDoor.Or Go.Proofs.YtplmmblofhhikaaDoorW.PrintWords Go.Proofs.YtplmmblofhhikaaDoorW.PrintLast Go.Proofs.YtplmmblofhhikaaDoorW.PrintMore
attribute [local go_sem] max2_int min2_int max_two min_two max_three min_three max_four min_four   -- for this text's walks alone
attribute [local go_sem] Go.Proofs.YtplmmblofhhikaaDoor.Ext.wrap64_mod256 Go.Proofs.YtplmmblofhhikaaDoor.Ext.wrap64_mod32 Go.Proofs.YtplmmblofhhikaaDoor.Ext.i64_mod256 Go.Proofs.YtplmmblofhhikaaDoor.Ext.i64_mod32 Go.Proofs.YtplmmblofhhikaaDoor.Ext.i64_u8 Go.Proofs.YtplmmblofhhikaaDoor.Ext.w64_u8 Go.Proofs.YtplmmblofhhikaaDoor.Ext.i64_u32 Go.Proofs.YtplmmblofhhikaaDoor.Ext.w64_u32 
set_option linter.unusedVariables false
set_option linter.unusedSimpArgs false

/-! ### xansi_QueryKeyModifierOptions: function 65 -/
def xansi_QueryKeyModifierOptions.f (a0 : Int) : Option (ByteArray) := if a0 > 0 then ((strconv_Itoa.f a0).bind fun t129 => (if 3 + t129.size ≤ 9223372036854775807 then (if 3 + t129.size + 1 ≤ 9223372036854775807 then (some (((⟨#[27, 91, 63]⟩ : ByteArray) ++ t129) ++ (⟨#[109]⟩ : ByteArray))) else (none)) else (none))) else (if 3 + 0 ≤ 9223372036854775807 then (if 3 + 0 + 1 ≤ 9223372036854775807 then (some (((⟨#[27, 91, 63]⟩ : ByteArray) ++ (⟨#[]⟩ : ByteArray)) ++ (⟨#[109]⟩ : ByteArray))) else (none)) else (none))
set_option maxHeartbeats 8000000 in
set_option maxRecDepth 100000 in
theorem xansi_QueryKeyModifierOptions.calls (a0 : Int) (r : ByteArray) (w : World) (hLD : Laid w) (h : xansi_QueryKeyModifierOptions.f a0 = some r) :
    Calls Tryd.prog 65 #[.int .i64 a0] w fun e w' => e = .returned (.string r) ∧ Below w.heap.size w w' := by
  have HLD := Aside0.mk hLD
  clear hLD
  have HB := Aside0.mk (Below.refl w.heap.size w)
  have H : (if a0 > 0 then ((strconv_Itoa.f a0).bind fun t129 => (if 3 + t129.size ≤ 9223372036854775807 then (if 3 + t129.size + 1 ≤ 9223372036854775807 then (some (((⟨#[27, 91, 63]⟩ : ByteArray) ++ t129) ++ (⟨#[109]⟩ : ByteArray))) else (none)) else (none))) else (if 3 + 0 ≤ 9223372036854775807 then (if 3 + 0 + 1 ≤ 9223372036854775807 then (some (((⟨#[27, 91, 63]⟩ : ByteArray) ++ (⟨#[]⟩ : ByteArray)) ++ (⟨#[109]⟩ : ByteArray))) else (none)) else (none))) = some r := h
  clear h
  by_cases c2 : a0 > 0
  · rw [if_pos c2] at H
    have c2b0 : decide (0 < a0) = true := decide_eq_true c2
    clear c2
    replace H := Option.bind_eq_some_iff.mp H
    obtain ⟨t129, A30, H⟩ := H
    replace H : (if 3 + t129.size ≤ 9223372036854775807 then (if 3 + t129.size + 1 ≤ 9223372036854775807 then (some (((⟨#[27, 91, 63]⟩ : ByteArray) ++ t129) ++ (⟨#[109]⟩ : ByteArray))) else (none)) else (none)) = some r := H
    have A3 := Aside0.mk A30
    clear A30
    by_cases c4 : 3 + t129.size ≤ 9223372036854775807
    · rw [if_pos c4] at H
      have c4b0 := eq_true c4
      have c4b1 : decide (3 + t129.size ≤ 9223372036854775807) = true := decide_eq_true c4
      try have c4b2 : (9223372036854775807 < 3 + t129.size) = False := eq_false (Nat.not_lt.2 c4)
      by_cases c5 : 3 + t129.size + 1 ≤ 9223372036854775807
      · rw [if_pos c5] at H
        have c5b0 := eq_true c5
        have c5b1 : decide (3 + t129.size + 1 ≤ 9223372036854775807) = true := decide_eq_true c5
        try have c5b2 : (9223372036854775807 < 3 + t129.size + 1) = False := eq_false (Nat.not_lt.2 c5)
        obtain rfl := Option.some.inj H
        go_enter Tryd.func65, Tryd.ntmps65
        go_wp2_with (first | ((with_reducible refine gate_callee (f := 109) rfl ?_); refine goesL_ (some 7) rfl rfl Tryd.func109 (by kernel_rfl) rfl #[.int .i64 a0] rfl (by (try simp only [List.map_toArray, List.map_cons, List.map_nil]); first | done | rfl | (simp only [List.length_drop, List.length_take]; rfl) | (simp [Act.eval, *]; done) | (simp [Act.eval, *]; unfold wrap64; omega)) ?_; (with_reducible refine (strconv_Itoa.calls a0 t129 _ ?side1 A3.out).mono ?_); (case side1 => exact HLD.out.below (by repeat (first | (with_reducible first | exact HB.out | apply below_alloc | apply Go.Proofs.YtplmmblofhhikaaDoor.Ext.below_bytes | apply pw_below_drewN | apply below_drew1) | exact HB.out))); rintro e w6 ⟨rfl, hb⟩; refine ⟨_, rfl, ?_⟩; have n0_ := Aside0.mk (below_step (by repeat (first | (with_reducible first | exact HB.out | apply below_alloc | apply Go.Proofs.YtplmmblofhhikaaDoor.Ext.below_bytes | apply pw_below_drewN | apply below_drew1) | exact HB.out)) hb); clear HB; have HB := n0_; clear n0_; (try clear hb); (try clear hb2); (try clear hk); (try clear hi)))
        go_ret
        exact ⟨by first | rfl | (simp [errW_none, errW_some] <;> rfl) | (simp [*, errW_none, errW_some] <;> rfl), by repeat (first | (with_reducible first | exact HB.out | apply below_alloc | apply Go.Proofs.YtplmmblofhhikaaDoor.Ext.below_bytes | apply pw_below_drewN | apply below_drew1) | exact HB.out)⟩
      · rw [if_neg c5] at H
        exact absurd H (by simp)
    · rw [if_neg c4] at H
      exact absurd H (by simp)
  · rw [if_neg c2] at H
    have c2b0 : decide (0 < a0) = false := decide_eq_false c2
    clear c2
    by_cases c7 : 3 + 0 ≤ 9223372036854775807
    · rw [if_pos c7] at H
      have c7b0 := eq_true c7
      have c7b1 : decide (3 + 0 ≤ 9223372036854775807) = true := decide_eq_true c7
      try have c7b2 : (9223372036854775807 < 3 + 0) = False := eq_false (Nat.not_lt.2 c7)
      by_cases c8 : 3 + 0 + 1 ≤ 9223372036854775807
      · rw [if_pos c8] at H
        have c8b0 := eq_true c8
        have c8b1 : decide (3 + 0 + 1 ≤ 9223372036854775807) = true := decide_eq_true c8
        try have c8b2 : (9223372036854775807 < 3 + 0 + 1) = False := eq_false (Nat.not_lt.2 c8)
        obtain rfl := Option.some.inj H
        go_enter Tryd.func65, Tryd.ntmps65
        go_wp2
        go_ret
        exact ⟨by first | rfl | (simp [errW_none, errW_some] <;> rfl) | (simp [*, errW_none, errW_some] <;> rfl), by repeat (first | (with_reducible first | exact HB.out | apply below_alloc | apply Go.Proofs.YtplmmblofhhikaaDoor.Ext.below_bytes | apply pw_below_drewN | apply below_drew1) | exact HB.out)⟩
      · rw [if_neg c8] at H
        exact absurd H (by simp)
    · rw [if_neg c7] at H
      exact absurd H (by simp)

/-! ### xansi_KeyModifierOptions: function 90 -/
def xansi_KeyModifierOptions.j0 : Nat → Int → List Int → ByteArray → Option (ByteArray)
  | 0, _, _, _ => none
  | k + 1, x0, x1, x5 => if (x1.length : Int) = 0 then ((strconv_Itoa.f x0).bind fun t131 => (if 3 + t131.size ≤ 9223372036854775807 then (if 3 + t131.size + 1 ≤ 9223372036854775807 then (some (((⟨#[27, 91, 62]⟩ : ByteArray) ++ t131) ++ (⟨#[109]⟩ : ByteArray))) else (none)) else (none))) else (if 0 < (x1.length : Int) then (if (rd x1 0) > 0 then ((strconv_Itoa.f (rd x1 0)).bind fun t133 => (if 3 + x5.size ≤ 9223372036854775807 then (if 3 + x5.size + 1 ≤ 9223372036854775807 then (if 3 + x5.size + 1 + t133.size ≤ 9223372036854775807 then (if 3 + x5.size + 1 + t133.size + 1 ≤ 9223372036854775807 then (some (((((⟨#[27, 91, 62]⟩ : ByteArray) ++ x5) ++ (⟨#[59]⟩ : ByteArray)) ++ t133) ++ (⟨#[109]⟩ : ByteArray))) else (none)) else (none)) else (none)) else (none))) else (if 3 + x5.size ≤ 9223372036854775807 then (if 3 + x5.size + 1 ≤ 9223372036854775807 then (some (((⟨#[27, 91, 62]⟩ : ByteArray) ++ x5) ++ (⟨#[109]⟩ : ByteArray))) else (none)) else (none))) else (none))
def xansi_KeyModifierOptions.f (k : Nat) (a0 : Int) (l1 : List Int) : Option (ByteArray) := if a0 > 0 then ((strconv_Itoa.f a0).bind fun t130 => (xansi_KeyModifierOptions.j0 k a0 l1 t130)) else (xansi_KeyModifierOptions.j0 k a0 l1 (⟨#[]⟩ : ByteArray))
theorem xansi_KeyModifierOptions.mono_l : ∀ k, (∀ y0 y1 y2, LeO (xansi_KeyModifierOptions.j0 k y0 y1 y2) (xansi_KeyModifierOptions.j0 (k + 1) y0 y1 y2))
  | 0 => fun _ _ _ r h => by simp [xansi_KeyModifierOptions.j0] at h
  | k + 1 => by
    have ih0 := xansi_KeyModifierOptions.mono_l k
    · intro y0 y1 y2
      unfold xansi_KeyModifierOptions.j0
      repeat' first
      | (with_reducible exact ih0 _ _ _)
      | (with_reducible exact LeO.refl _)
      | (with_reducible exact LeO.none _)
      | (with_reducible refine LeO.ite ?_ ?_)
      | (with_reducible refine LeO.bind ?_ (fun _ => ?_))
      | exact ih0 _ _ _
      | exact LeO.none _
      | refine LeO.ite ?_ ?_
      | refine LeO.bind ?_ (fun _ => ?_)
theorem xansi_KeyModifierOptions.mono : ∀ a0 a1 k, LeO (xansi_KeyModifierOptions.f k a0 a1) (xansi_KeyModifierOptions.f (k + 1) a0 a1) := by
  intro a0 a1 k
  have ih0 := xansi_KeyModifierOptions.mono_l k
  unfold xansi_KeyModifierOptions.f
  repeat' first
      | (with_reducible exact ih0 _ _ _)
      | (with_reducible exact LeO.refl _)
      | (with_reducible exact LeO.none _)
      | (with_reducible refine LeO.ite ?_ ?_)
      | (with_reducible refine LeO.bind ?_ (fun _ => ?_))
      | exact ih0 _ _ _
      | exact LeO.none _
      | refine LeO.ite ?_ ?_
      | refine LeO.bind ?_ (fun _ => ?_)
set_option maxHeartbeats 8000000 in
set_option maxRecDepth 100000 in
theorem xansi_KeyModifierOptions.calls (k : Nat) (a0 : Int) (A1 : Option Addr) (c1 : Nat) (l1 : List Int) (r : ByteArray) (w : World) (hr1 : Kd.C (Kd.int .i64) w A1 l1.length l1) (hc1 : l1.length ≤ c1) (hLD : Laid w) (h : xansi_KeyModifierOptions.f k a0 l1 = some r) :
    Calls Tryd.prog 90 #[.int .i64 a0, .slice A1 l1.length c1] w fun e w' => e = .returned (.string r) ∧ Below w.heap.size w w' := by
  have HLD := Aside0.mk hLD
  clear hLD
  have HR1 := Aside0.mk hr1
  have HC1 := Aside0.mk hc1
  clear hr1 hc1
  have HB := Aside0.mk (Below.refl w.heap.size w)
  have H : (if a0 > 0 then ((strconv_Itoa.f a0).bind fun t130 => (xansi_KeyModifierOptions.j0 k a0 l1 t130)) else (xansi_KeyModifierOptions.j0 k a0 l1 (⟨#[]⟩ : ByteArray))) = some r := h
  clear h
  have HC3 := Aside0.mk H
  clear H
  go_enter Tryd.func90, Tryd.ntmps90
  go_upto_if 9 with (fail)
  go_cut [5] (fun v5 wc => ∃ (kq : Nat) (x5_2 : ByteArray), v5 = .string x5_2 ∧ Aside0 (xansi_KeyModifierOptions.j0 kq a0 l1 x5_2 = some r) ∧ Aside0 (kq ≤ k) ∧ Aside0 (Below w.heap.size w wc))
  case first =>
    have H := HC3.out
    clear HC3
    by_cases c4 : a0 > 0
    · rw [if_pos c4] at H
      have c4b0 : decide (0 < a0) = true := decide_eq_true c4
      clear c4
      (first | rw [c4b0] | (simp only [i64_w, i32_w]; rw [c4b0]) | skip)
      replace H := Option.bind_eq_some_iff.mp H
      obtain ⟨t130, A50, H⟩ := H
      replace H : (xansi_KeyModifierOptions.j0 k a0 l1 t130) = some r := H
      have A5 := Aside0.mk A50
      clear A50
      have H' := Aside0.mk H
      clear H
      go_wp2_with (first | ((with_reducible refine gate_callee (f := 109) rfl ?_); refine goesL_ (some 11) rfl rfl Tryd.func109 (by kernel_rfl) rfl #[.int .i64 a0] rfl (by (try simp only [List.map_toArray, List.map_cons, List.map_nil]); first | done | rfl | (simp only [List.length_drop, List.length_take]; rfl) | (simp [Act.eval, *]; done) | (simp [Act.eval, *]; unfold wrap64; omega)) ?_; (with_reducible refine (strconv_Itoa.calls a0 t130 _ ?side1 A5.out).mono ?_); (case side1 => exact HLD.out.below (by repeat (first | (with_reducible first | exact HB.out | apply below_alloc | apply Go.Proofs.YtplmmblofhhikaaDoor.Ext.below_bytes | apply pw_below_drewN | apply below_drew1) | exact HB.out))); rintro e w6 ⟨rfl, hb⟩; refine ⟨_, rfl, ?_⟩; have n0_ := Aside0.mk (below_step (by repeat (first | (with_reducible first | exact HB.out | apply below_alloc | apply Go.Proofs.YtplmmblofhhikaaDoor.Ext.below_bytes | apply pw_below_drewN | apply below_drew1) | exact HB.out)) hb); clear HB; have HB := n0_; clear n0_; (try clear hb); (try clear hb2); (try clear hk); (try clear hi)))
      go_meet
      case rel => exact ⟨_, (t130), (by first | rfl | (simp; done) | (simp [*]; done)), H', ⟨by first | omega | exact Nat.le_refl _⟩, ⟨by repeat (first | (with_reducible first | exact HB.out | apply below_alloc | apply Go.Proofs.YtplmmblofhhikaaDoor.Ext.below_bytes | apply pw_below_drewN | apply below_drew1) | exact HB.out)⟩⟩
    · rw [if_neg c4] at H
      have c4b0 : decide (0 < a0) = false := decide_eq_false c4
      clear c4
      (first | rw [c4b0] | (simp only [i64_w, i32_w]; rw [c4b0]) | skip)
      have H' := Aside0.mk H
      clear H
      go_wp2
      go_meet
      case rel => exact ⟨_, ((⟨#[]⟩ : ByteArray)), (by first | rfl | (simp; done) | (simp [*]; done)), H', ⟨by first | omega | exact Nat.le_refl _⟩, ⟨by repeat (first | (with_reducible first | exact HB.out | apply below_alloc | apply Go.Proofs.YtplmmblofhhikaaDoor.Ext.below_bytes | apply pw_below_drewN | apply below_drew1) | exact HB.out)⟩⟩
  case rest =>
    clear HC3
    try clear c1
    try clear p2
    try clear c4
    try clear c4b0
    try clear p6
    obtain ⟨kq, x5_2, rfl, HA, HJ2, HB⟩ := hcut
    cases kq with
    | zero => exact absurd HA.out (by simp [xansi_KeyModifierOptions.j0])
    | succ kj2 =>
      have H := HA.out
      clear HA
      simp only [xansi_KeyModifierOptions.j0] at H
      by_cases c7 : (l1.length : Int) = 0
      · rw [if_pos c7] at H
        have c7b0 : ((l1.length : Int) == 0) = true := beq_iff_eq.mpr c7
        have c7b1 : ((l1.length : Int) != 0) = false := bne_eq_false_iff_eq.mpr c7
        clear c7
        replace H := Option.bind_eq_some_iff.mp H
        obtain ⟨t131, A80, H⟩ := H
        replace H : (if 3 + t131.size ≤ 9223372036854775807 then (if 3 + t131.size + 1 ≤ 9223372036854775807 then (some (((⟨#[27, 91, 62]⟩ : ByteArray) ++ t131) ++ (⟨#[109]⟩ : ByteArray))) else (none)) else (none)) = some r := H
        have A8 := Aside0.mk A80
        clear A80
        by_cases c9 : 3 + t131.size ≤ 9223372036854775807
        · rw [if_pos c9] at H
          have c9b0 := eq_true c9
          have c9b1 : decide (3 + t131.size ≤ 9223372036854775807) = true := decide_eq_true c9
          try have c9b2 : (9223372036854775807 < 3 + t131.size) = False := eq_false (Nat.not_lt.2 c9)
          by_cases c10 : 3 + t131.size + 1 ≤ 9223372036854775807
          · rw [if_pos c10] at H
            have c10b0 := eq_true c10
            have c10b1 : decide (3 + t131.size + 1 ≤ 9223372036854775807) = true := decide_eq_true c10
            try have c10b2 : (9223372036854775807 < 3 + t131.size + 1) = False := eq_false (Nat.not_lt.2 c10)
            obtain rfl := Option.some.inj H
            go_wp2_with (first | ((with_reducible refine gate_callee (f := 109) rfl ?_); refine goesL_ (some 16) rfl rfl Tryd.func109 (by kernel_rfl) rfl #[.int .i64 a0] rfl (by (try simp only [List.map_toArray, List.map_cons, List.map_nil]); first | done | rfl | (simp only [List.length_drop, List.length_take]; rfl) | (simp [Act.eval, *]; done) | (simp [Act.eval, *]; unfold wrap64; omega)) ?_; (with_reducible refine (strconv_Itoa.calls a0 t131 _ ?side1 A8.out).mono ?_); (case side1 => exact HLD.out.below (by repeat (first | (with_reducible first | exact HB.out | apply below_alloc | apply Go.Proofs.YtplmmblofhhikaaDoor.Ext.below_bytes | apply pw_below_drewN | apply below_drew1) | exact HB.out))); rintro e w11 ⟨rfl, hb⟩; refine ⟨_, rfl, ?_⟩; have n0_ := Aside0.mk (below_step (by repeat (first | (with_reducible first | exact HB.out | apply below_alloc | apply Go.Proofs.YtplmmblofhhikaaDoor.Ext.below_bytes | apply pw_below_drewN | apply below_drew1) | exact HB.out)) hb); clear HB; have HB := n0_; clear n0_; (try clear hb); (try clear hb2); (try clear hk); (try clear hi)))
            go_ret
            exact ⟨by first | rfl | (simp [errW_none, errW_some] <;> rfl) | (simp [*, errW_none, errW_some] <;> rfl), by repeat (first | (with_reducible first | exact HB.out | apply below_alloc | apply Go.Proofs.YtplmmblofhhikaaDoor.Ext.below_bytes | apply pw_below_drewN | apply below_drew1) | exact HB.out)⟩
          · rw [if_neg c10] at H
            exact absurd H (by simp)
        · rw [if_neg c9] at H
          exact absurd H (by simp)
      · rw [if_neg c7] at H
        have c7b0 : ((l1.length : Int) == 0) = false := beq_eq_false_iff_ne.mpr c7
        have c7b1 : ((l1.length : Int) != 0) = true := bne_iff_ne.mpr c7
        have c7b2 : ¬ (l1 = []) := fun h_ => c7 (by rw [h_]; rfl)
        by_cases c12 : 0 < (l1.length : Int)
        · rw [if_pos c12] at H
          have c12b0 : decide (0 < (l1.length : Int)) = true := decide_eq_true c12
          have c12b1 : decide (0 < l1.length) = true := decide_eq_true (by omega)
          clear c12
          by_cases c13 : (rd l1 0) > 0
          · rw [if_pos c13] at H
            have c13b0 : decide (0 < (rd l1 0)) = true := decide_eq_true c13
            clear c13
            replace H := Option.bind_eq_some_iff.mp H
            obtain ⟨t133, A140, H⟩ := H
            replace H : (if 3 + x5_2.size ≤ 9223372036854775807 then (if 3 + x5_2.size + 1 ≤ 9223372036854775807 then (if 3 + x5_2.size + 1 + t133.size ≤ 9223372036854775807 then (if 3 + x5_2.size + 1 + t133.size + 1 ≤ 9223372036854775807 then (some (((((⟨#[27, 91, 62]⟩ : ByteArray) ++ x5_2) ++ (⟨#[59]⟩ : ByteArray)) ++ t133) ++ (⟨#[109]⟩ : ByteArray))) else (none)) else (none)) else (none)) else (none)) = some r := H
            have A14 := Aside0.mk A140
            clear A140
            by_cases c15 : 3 + x5_2.size ≤ 9223372036854775807
            · rw [if_pos c15] at H
              have c15b0 := eq_true c15
              have c15b1 : decide (3 + x5_2.size ≤ 9223372036854775807) = true := decide_eq_true c15
              try have c15b2 : (9223372036854775807 < 3 + x5_2.size) = False := eq_false (Nat.not_lt.2 c15)
              by_cases c16 : 3 + x5_2.size + 1 ≤ 9223372036854775807
              · rw [if_pos c16] at H
                have c16b0 := eq_true c16
                have c16b1 : decide (3 + x5_2.size + 1 ≤ 9223372036854775807) = true := decide_eq_true c16
                try have c16b2 : (9223372036854775807 < 3 + x5_2.size + 1) = False := eq_false (Nat.not_lt.2 c16)
                by_cases c17 : 3 + x5_2.size + 1 + t133.size ≤ 9223372036854775807
                · rw [if_pos c17] at H
                  have c17b0 := eq_true c17
                  have c17b1 : decide (3 + x5_2.size + 1 + t133.size ≤ 9223372036854775807) = true := decide_eq_true c17
                  try have c17b2 : (9223372036854775807 < 3 + x5_2.size + 1 + t133.size) = False := eq_false (Nat.not_lt.2 c17)
                  by_cases c18 : 3 + x5_2.size + 1 + t133.size + 1 ≤ 9223372036854775807
                  · rw [if_pos c18] at H
                    have c18b0 := eq_true c18
                    have c18b1 : decide (3 + x5_2.size + 1 + t133.size + 1 ≤ 9223372036854775807) = true := decide_eq_true c18
                    try have c18b2 : (9223372036854775807 < 3 + x5_2.size + 1 + t133.size + 1) = False := eq_false (Nat.not_lt.2 c18)
                    obtain rfl := Option.some.inj H
                    have p132 : 0 ≤ (0 : Int) := (by omega)
                    have q132 : 0 < (l1.length : Int) := of_decide_eq_true (by first | (with_reducible assumption) | assumption)
                    obtain ⟨ad132, e132, hx132_0⟩ := Kd.at_int HR1.out 0 p132 q132
                    cases e132
                    have qi132 : (0 < l1.length) = True := eq_true (by omega)
                    (try rw [show ((0 : Int)).toNat = 0 from rfl] at hx132_0)
                    (try rw [Addr.add_zero'] at hx132_0)
                    replace hx132_0 := (HB.out.cell (World.block_lt_of_cell? w _ hx132_0)).trans hx132_0
                    replace p132 := eq_true p132
                    replace q132 := eq_true q132
                    go_wp2_with (first | ((with_reducible refine gate_callee (f := 109) rfl ?_); refine goesL_ (some 25) rfl rfl Tryd.func109 (by kernel_rfl) rfl #[.int .i64 (rd l1 0)] rfl (by (try simp only [List.map_toArray, List.map_cons, List.map_nil]); first | done | rfl | (simp only [List.length_drop, List.length_take]; rfl) | (simp [Act.eval, *]; done) | (simp [Act.eval, *]; unfold wrap64; omega)) ?_; (with_reducible refine (strconv_Itoa.calls (rd l1 0) t133 _ ?side1 A14.out).mono ?_); (case side1 => exact HLD.out.below (by repeat (first | (with_reducible first | exact HB.out | apply below_alloc | apply Go.Proofs.YtplmmblofhhikaaDoor.Ext.below_bytes | apply pw_below_drewN | apply below_drew1) | exact HB.out))); rintro e w19 ⟨rfl, hb⟩; refine ⟨_, rfl, ?_⟩; have n0_ := Aside0.mk (below_step (by repeat (first | (with_reducible first | exact HB.out | apply below_alloc | apply Go.Proofs.YtplmmblofhhikaaDoor.Ext.below_bytes | apply pw_below_drewN | apply below_drew1) | exact HB.out)) hb); clear HB; have HB := n0_; clear n0_; (try clear hb); (try clear hb2); (try clear hk); (try clear hi)))
                    go_ret
                    exact ⟨by first | rfl | (simp [errW_none, errW_some] <;> rfl) | (simp [*, errW_none, errW_some] <;> rfl), by repeat (first | (with_reducible first | exact HB.out | apply below_alloc | apply Go.Proofs.YtplmmblofhhikaaDoor.Ext.below_bytes | apply pw_below_drewN | apply below_drew1) | exact HB.out)⟩
                  · rw [if_neg c18] at H
                    exact absurd H (by simp)
                · rw [if_neg c17] at H
                  exact absurd H (by simp)
              · rw [if_neg c16] at H
                exact absurd H (by simp)
            · rw [if_neg c15] at H
              exact absurd H (by simp)
          · rw [if_neg c13] at H
            have c13b0 : decide (0 < (rd l1 0)) = false := decide_eq_false c13
            clear c13
            by_cases c20 : 3 + x5_2.size ≤ 9223372036854775807
            · rw [if_pos c20] at H
              have c20b0 := eq_true c20
              have c20b1 : decide (3 + x5_2.size ≤ 9223372036854775807) = true := decide_eq_true c20
              try have c20b2 : (9223372036854775807 < 3 + x5_2.size) = False := eq_false (Nat.not_lt.2 c20)
              by_cases c21 : 3 + x5_2.size + 1 ≤ 9223372036854775807
              · rw [if_pos c21] at H
                have c21b0 := eq_true c21
                have c21b1 : decide (3 + x5_2.size + 1 ≤ 9223372036854775807) = true := decide_eq_true c21
                try have c21b2 : (9223372036854775807 < 3 + x5_2.size + 1) = False := eq_false (Nat.not_lt.2 c21)
                obtain rfl := Option.some.inj H
                have p132 : 0 ≤ (0 : Int) := (by omega)
                have q132 : 0 < (l1.length : Int) := of_decide_eq_true (by first | (with_reducible assumption) | assumption)
                obtain ⟨ad132, e132, hx132_0⟩ := Kd.at_int HR1.out 0 p132 q132
                cases e132
                have qi132 : (0 < l1.length) = True := eq_true (by omega)
                (try rw [show ((0 : Int)).toNat = 0 from rfl] at hx132_0)
                (try rw [Addr.add_zero'] at hx132_0)
                replace hx132_0 := (HB.out.cell (World.block_lt_of_cell? w _ hx132_0)).trans hx132_0
                replace p132 := eq_true p132
                replace q132 := eq_true q132
                go_wp2
                go_ret
                exact ⟨by first | rfl | (simp [errW_none, errW_some] <;> rfl) | (simp [*, errW_none, errW_some] <;> rfl), by repeat (first | (with_reducible first | exact HB.out | apply below_alloc | apply Go.Proofs.YtplmmblofhhikaaDoor.Ext.below_bytes | apply pw_below_drewN | apply below_drew1) | exact HB.out)⟩
              · rw [if_neg c21] at H
                exact absurd H (by simp)
            · rw [if_neg c20] at H
              exact absurd H (by simp)
        · rw [if_neg c12] at H
          exact absurd H (by simp)

/-! ### xansi_ResetKeyModifierOptions: function 66 -/
def xansi_ResetKeyModifierOptions.f (k : Nat) (a0 : Int) : Option (ByteArray) := (xansi_KeyModifierOptions.f k a0 ([] : List Int)).bind fun t134 => (some t134)
theorem xansi_ResetKeyModifierOptions.mono : ∀ a0 k, LeO (xansi_ResetKeyModifierOptions.f k a0) (xansi_ResetKeyModifierOptions.f (k + 1) a0) := by
  intro a0 k
  unfold xansi_ResetKeyModifierOptions.f
  repeat' first
      | (with_reducible exact xansi_KeyModifierOptions.mono _ _ _)
      | (with_reducible exact LeO.refl _)
      | (with_reducible exact LeO.none _)
      | (with_reducible refine LeO.ite ?_ ?_)
      | (with_reducible refine LeO.bind ?_ (fun _ => ?_))
      | exact xansi_KeyModifierOptions.mono _ _ _
      | exact LeO.none _
      | refine LeO.ite ?_ ?_
      | refine LeO.bind ?_ (fun _ => ?_)
set_option maxHeartbeats 8000000 in
set_option maxRecDepth 100000 in
theorem xansi_ResetKeyModifierOptions.calls (k : Nat) (a0 : Int) (r : ByteArray) (w : World) (hLD : Laid w) (h : xansi_ResetKeyModifierOptions.f k a0 = some r) :
    Calls Tryd.prog 66 #[.int .i64 a0] w fun e w' => e = .returned (.string r) ∧ Below w.heap.size w w' := by
  have HLD := Aside0.mk hLD
  clear hLD
  have HB := Aside0.mk (Below.refl w.heap.size w)
  have H : ((xansi_KeyModifierOptions.f k a0 ([] : List Int)).bind fun t134 => (some t134)) = some r := h
  clear h
  replace H := Option.bind_eq_some_iff.mp H
  obtain ⟨t134, A20, H⟩ := H
  replace H : (some t134) = some r := H
  have A2 := Aside0.mk A20
  clear A20
  obtain rfl := Option.some.inj H
  go_enter Tryd.func66, Tryd.ntmps66
  go_wp2_with (first | ((with_reducible refine gate_callee (f := 90) rfl ?_); refine goesL_ (some 4) rfl rfl Tryd.func90 (by kernel_rfl) rfl #[.int .i64 a0, .slice none 0 0] rfl (by (try simp only [List.map_toArray, List.map_cons, List.map_nil]); first | done | rfl | (simp only [List.length_drop, List.length_take]; rfl) | (simp [Act.eval, *]; done) | (simp [Act.eval, *]; unfold wrap64; omega)) ?_; (refine (xansi_KeyModifierOptions.calls k a0 _ _ ([] : List Int) t134 _ ?side1 ?side2 ?side3 A2.out).mono ?_); (case side1 => exact Kd.C_nil _ _); (case side2 => exact Nat.le_refl _); (case side3 => exact HLD.out.below (by repeat (first | (with_reducible first | exact HB.out | apply below_alloc | apply Go.Proofs.YtplmmblofhhikaaDoor.Ext.below_bytes | apply pw_below_drewN | apply below_drew1) | exact HB.out))); rintro e w3 ⟨rfl, hb⟩; refine ⟨_, rfl, ?_⟩; have n0_ := Aside0.mk (below_step (by repeat (first | (with_reducible first | exact HB.out | apply below_alloc | apply Go.Proofs.YtplmmblofhhikaaDoor.Ext.below_bytes | apply pw_below_drewN | apply below_drew1) | exact HB.out)) hb); clear HB; have HB := n0_; clear n0_; (try clear hb); (try clear hb2); (try clear hk); (try clear hi)))
  go_ret
  exact ⟨by first | rfl | (simp [errW_none, errW_some] <;> rfl) | (simp [*, errW_none, errW_some] <;> rfl), by repeat (first | (with_reducible first | exact HB.out | apply below_alloc | apply Go.Proofs.YtplmmblofhhikaaDoor.Ext.below_bytes | apply pw_below_drewN | apply below_drew1) | exact HB.out)⟩

/-! ### xansi_ModifyOtherKeys: function 67 -/
def xansi_ModifyOtherKeys.f (a0 : Int) : Option (ByteArray) := (strconv_Itoa.f a0).bind fun t135 => (if 5 + t135.size ≤ 9223372036854775807 then (if 5 + t135.size + 1 ≤ 9223372036854775807 then (some (((⟨#[27, 91, 62, 52, 59]⟩ : ByteArray) ++ t135) ++ (⟨#[109]⟩ : ByteArray))) else (none)) else (none))
set_option maxHeartbeats 8000000 in
set_option maxRecDepth 100000 in
theorem xansi_ModifyOtherKeys.calls (a0 : Int) (r : ByteArray) (w : World) (hLD : Laid w) (h : xansi_ModifyOtherKeys.f a0 = some r) :
    Calls Tryd.prog 67 #[.int .i64 a0] w fun e w' => e = .returned (.string r) ∧ Below w.heap.size w w' := by
  have HLD := Aside0.mk hLD
  clear hLD
  have HB := Aside0.mk (Below.refl w.heap.size w)
  have H : ((strconv_Itoa.f a0).bind fun t135 => (if 5 + t135.size ≤ 9223372036854775807 then (if 5 + t135.size + 1 ≤ 9223372036854775807 then (some (((⟨#[27, 91, 62, 52, 59]⟩ : ByteArray) ++ t135) ++ (⟨#[109]⟩ : ByteArray))) else (none)) else (none))) = some r := h
  clear h
  replace H := Option.bind_eq_some_iff.mp H
  obtain ⟨t135, A20, H⟩ := H
  replace H : (if 5 + t135.size ≤ 9223372036854775807 then (if 5 + t135.size + 1 ≤ 9223372036854775807 then (some (((⟨#[27, 91, 62, 52, 59]⟩ : ByteArray) ++ t135) ++ (⟨#[109]⟩ : ByteArray))) else (none)) else (none)) = some r := H
  have A2 := Aside0.mk A20
  clear A20
  by_cases c3 : 5 + t135.size ≤ 9223372036854775807
  · rw [if_pos c3] at H
    have c3b0 := eq_true c3
    have c3b1 : decide (5 + t135.size ≤ 9223372036854775807) = true := decide_eq_true c3
    try have c3b2 : (9223372036854775807 < 5 + t135.size) = False := eq_false (Nat.not_lt.2 c3)
    by_cases c4 : 5 + t135.size + 1 ≤ 9223372036854775807
    · rw [if_pos c4] at H
      have c4b0 := eq_true c4
      have c4b1 : decide (5 + t135.size + 1 ≤ 9223372036854775807) = true := decide_eq_true c4
      try have c4b2 : (9223372036854775807 < 5 + t135.size + 1) = False := eq_false (Nat.not_lt.2 c4)
      obtain rfl := Option.some.inj H
      go_enter Tryd.func67, Tryd.ntmps67
      go_wp2_with (first | ((with_reducible refine gate_callee (f := 109) rfl ?_); refine goesL_ (some 4) rfl rfl Tryd.func109 (by kernel_rfl) rfl #[.int .i64 a0] rfl (by (try simp only [List.map_toArray, List.map_cons, List.map_nil]); first | done | rfl | (simp only [List.length_drop, List.length_take]; rfl) | (simp [Act.eval, *]; done) | (simp [Act.eval, *]; unfold wrap64; omega)) ?_; (with_reducible refine (strconv_Itoa.calls a0 t135 _ ?side1 A2.out).mono ?_); (case side1 => exact HLD.out.below (by repeat (first | (with_reducible first | exact HB.out | apply below_alloc | apply Go.Proofs.YtplmmblofhhikaaDoor.Ext.below_bytes | apply pw_below_drewN | apply below_drew1) | exact HB.out))); rintro e w5 ⟨rfl, hb⟩; refine ⟨_, rfl, ?_⟩; have n0_ := Aside0.mk (below_step (by repeat (first | (with_reducible first | exact HB.out | apply below_alloc | apply Go.Proofs.YtplmmblofhhikaaDoor.Ext.below_bytes | apply pw_below_drewN | apply below_drew1) | exact HB.out)) hb); clear HB; have HB := n0_; clear n0_; (try clear hb); (try clear hb2); (try clear hk); (try clear hi)))
      go_ret
      exact ⟨by first | rfl | (simp [errW_none, errW_some] <;> rfl) | (simp [*, errW_none, errW_some] <;> rfl), by repeat (first | (with_reducible first | exact HB.out | apply below_alloc | apply Go.Proofs.YtplmmblofhhikaaDoor.Ext.below_bytes | apply pw_below_drewN | apply below_drew1) | exact HB.out)⟩
    · rw [if_neg c4] at H
      exact absurd H (by simp)
  · rw [if_neg c3] at H
    exact absurd H (by simp)

/-! ### xansi_SetProgressBar: function 68 -/
def xansi_SetProgressBar.f (a0 : Int) : Option (ByteArray) := (strconv_Itoa.f (mn (mx 0 a0) 100)).bind fun t136 => (if 8 + t136.size ≤ 9223372036854775807 then (if 8 + t136.size + 1 ≤ 9223372036854775807 then (some (((⟨#[27, 93, 57, 59, 52, 59, 49, 59]⟩ : ByteArray) ++ t136) ++ (⟨#[7]⟩ : ByteArray))) else (none)) else (none))
set_option maxHeartbeats 8000000 in
set_option maxRecDepth 100000 in
theorem xansi_SetProgressBar.calls (a0 : Int) (r : ByteArray) (w : World) (hLD : Laid w) (h : xansi_SetProgressBar.f a0 = some r) :
    Calls Tryd.prog 68 #[.int .i64 a0] w fun e w' => e = .returned (.string r) ∧ Below w.heap.size w w' := by
  have HLD := Aside0.mk hLD
  clear hLD
  have HB := Aside0.mk (Below.refl w.heap.size w)
  have H : ((strconv_Itoa.f (mn (mx 0 a0) 100)).bind fun t136 => (if 8 + t136.size ≤ 9223372036854775807 then (if 8 + t136.size + 1 ≤ 9223372036854775807 then (some (((⟨#[27, 93, 57, 59, 52, 59, 49, 59]⟩ : ByteArray) ++ t136) ++ (⟨#[7]⟩ : ByteArray))) else (none)) else (none))) = some r := h
  clear h
  obtain ⟨ji2, hji2⟩ : ∃ j_ : Int, (mx 0 a0) = j_ := ⟨_, rfl⟩
  replace H : ((strconv_Itoa.f (mn (ji2) 100)).bind fun t136 => (if 8 + t136.size ≤ 9223372036854775807 then (if 8 + t136.size + 1 ≤ 9223372036854775807 then (some (((⟨#[27, 93, 57, 59, 52, 59, 49, 59]⟩ : ByteArray) ++ t136) ++ (⟨#[7]⟩ : ByteArray))) else (none)) else (none))) = some r := by first | (rw [hji2] at H; exact H) | (simp only [hji2] at H ⊢; exact H)
  (try (have hji2l : 0 ≤ ji2 := by (rw [← hji2]; unfold mx; (repeat' split) <;> omega)))
  (try (have hji2m : 0 ≤ ji2 := by omega))
  have hji2_ : (if 0 < a0 then a0 else 0) = ji2 := hji2
  obtain ⟨ji3, hji3⟩ : ∃ j_ : Int, (mn (ji2) 100) = j_ := ⟨_, rfl⟩
  replace H : ((strconv_Itoa.f (ji3)).bind fun t136 => (if 8 + t136.size ≤ 9223372036854775807 then (if 8 + t136.size + 1 ≤ 9223372036854775807 then (some (((⟨#[27, 93, 57, 59, 52, 59, 49, 59]⟩ : ByteArray) ++ t136) ++ (⟨#[7]⟩ : ByteArray))) else (none)) else (none))) = some r := by first | (rw [hji3] at H; exact H) | (simp only [hji3] at H ⊢; exact H)
  have hji3_ : (if 100 < (ji2) then 100 else (ji2)) = ji3 := hji3
  replace H := Option.bind_eq_some_iff.mp H
  obtain ⟨t136, A40, H⟩ := H
  replace H : (if 8 + t136.size ≤ 9223372036854775807 then (if 8 + t136.size + 1 ≤ 9223372036854775807 then (some (((⟨#[27, 93, 57, 59, 52, 59, 49, 59]⟩ : ByteArray) ++ t136) ++ (⟨#[7]⟩ : ByteArray))) else (none)) else (none)) = some r := H
  have A4 := Aside0.mk A40
  clear A40
  by_cases c5 : 8 + t136.size ≤ 9223372036854775807
  · rw [if_pos c5] at H
    have c5b0 := eq_true c5
    have c5b1 : decide (8 + t136.size ≤ 9223372036854775807) = true := decide_eq_true c5
    try have c5b2 : (9223372036854775807 < 8 + t136.size) = False := eq_false (Nat.not_lt.2 c5)
    by_cases c6 : 8 + t136.size + 1 ≤ 9223372036854775807
    · rw [if_pos c6] at H
      have c6b0 := eq_true c6
      have c6b1 : decide (8 + t136.size + 1 ≤ 9223372036854775807) = true := decide_eq_true c6
      try have c6b2 : (9223372036854775807 < 8 + t136.size + 1) = False := eq_false (Nat.not_lt.2 c6)
      obtain rfl := Option.some.inj H
      go_enter Tryd.func68, Tryd.ntmps68
      go_wp2_with (first | ((with_reducible refine gate_callee (f := 109) rfl ?_); refine goesL_ (some 6) rfl rfl Tryd.func109 (by kernel_rfl) rfl #[.int .i64 ji3] rfl (by (try simp only [List.map_toArray, List.map_cons, List.map_nil]); first | done | (simp only [hji3]; rfl) | rfl | (simp only [List.length_drop, List.length_take]; rfl) | (simp [Act.eval, *]; done) | (simp [Act.eval, *]; unfold wrap64; omega)) ?_; (with_reducible refine (strconv_Itoa.calls ji3 t136 _ ?side1 A4.out).mono ?_); (case side1 => exact HLD.out.below (by repeat (first | (with_reducible first | exact HB.out | apply below_alloc | apply Go.Proofs.YtplmmblofhhikaaDoor.Ext.below_bytes | apply pw_below_drewN | apply below_drew1) | exact HB.out))); rintro e w7 ⟨rfl, hb⟩; refine ⟨_, rfl, ?_⟩; have n0_ := Aside0.mk (below_step (by repeat (first | (with_reducible first | exact HB.out | apply below_alloc | apply Go.Proofs.YtplmmblofhhikaaDoor.Ext.below_bytes | apply pw_below_drewN | apply below_drew1) | exact HB.out)) hb); clear HB; have HB := n0_; clear n0_; (try clear hb); (try clear hb2); (try clear hk); (try clear hi)))
      go_ret
      exact ⟨by first | rfl | (simp [errW_none, errW_some] <;> rfl) | (simp only [← hji2, ← hji3]; first | rfl | (simp [errW_none, errW_some] <;> rfl)) | (simp [*, errW_none, errW_some] <;> rfl), by repeat (first | (with_reducible first | exact HB.out | apply below_alloc | apply Go.Proofs.YtplmmblofhhikaaDoor.Ext.below_bytes | apply pw_below_drewN | apply below_drew1) | exact HB.out)⟩
    · rw [if_neg c6] at H
      exact absurd H (by simp)
  · rw [if_neg c5] at H
    exact absurd H (by simp)

/-! ### xansi_SetErrorProgressBar: function 69 -/
def xansi_SetErrorProgressBar.f (a0 : Int) : Option (ByteArray) := (strconv_Itoa.f (mn (mx 0 a0) 100)).bind fun t137 => (if 8 + t137.size ≤ 9223372036854775807 then (if 8 + t137.size + 1 ≤ 9223372036854775807 then (some (((⟨#[27, 93, 57, 59, 52, 59, 50, 59]⟩ : ByteArray) ++ t137) ++ (⟨#[7]⟩ : ByteArray))) else (none)) else (none))
set_option maxHeartbeats 8000000 in
set_option maxRecDepth 100000 in
theorem xansi_SetErrorProgressBar.calls (a0 : Int) (r : ByteArray) (w : World) (hLD : Laid w) (h : xansi_SetErrorProgressBar.f a0 = some r) :
    Calls Tryd.prog 69 #[.int .i64 a0] w fun e w' => e = .returned (.string r) ∧ Below w.heap.size w w' := by
  have HLD := Aside0.mk hLD
  clear hLD
  have HB := Aside0.mk (Below.refl w.heap.size w)
  have H : ((strconv_Itoa.f (mn (mx 0 a0) 100)).bind fun t137 => (if 8 + t137.size ≤ 9223372036854775807 then (if 8 + t137.size + 1 ≤ 9223372036854775807 then (some (((⟨#[27, 93, 57, 59, 52, 59, 50, 59]⟩ : ByteArray) ++ t137) ++ (⟨#[7]⟩ : ByteArray))) else (none)) else (none))) = some r := h
  clear h
  obtain ⟨ji2, hji2⟩ : ∃ j_ : Int, (mx 0 a0) = j_ := ⟨_, rfl⟩
  replace H : ((strconv_Itoa.f (mn (ji2) 100)).bind fun t137 => (if 8 + t137.size ≤ 9223372036854775807 then (if 8 + t137.size + 1 ≤ 9223372036854775807 then (some (((⟨#[27, 93, 57, 59, 52, 59, 50, 59]⟩ : ByteArray) ++ t137) ++ (⟨#[7]⟩ : ByteArray))) else (none)) else (none))) = some r := by first | (rw [hji2] at H; exact H) | (simp only [hji2] at H ⊢; exact H)
  (try (have hji2l : 0 ≤ ji2 := by (rw [← hji2]; unfold mx; (repeat' split) <;> omega)))
  (try (have hji2m : 0 ≤ ji2 := by omega))
  have hji2_ : (if 0 < a0 then a0 else 0) = ji2 := hji2
  obtain ⟨ji3, hji3⟩ : ∃ j_ : Int, (mn (ji2) 100) = j_ := ⟨_, rfl⟩
  replace H : ((strconv_Itoa.f (ji3)).bind fun t137 => (if 8 + t137.size ≤ 9223372036854775807 then (if 8 + t137.size + 1 ≤ 9223372036854775807 then (some (((⟨#[27, 93, 57, 59, 52, 59, 50, 59]⟩ : ByteArray) ++ t137) ++ (⟨#[7]⟩ : ByteArray))) else (none)) else (none))) = some r := by first | (rw [hji3] at H; exact H) | (simp only [hji3] at H ⊢; exact H)
  have hji3_ : (if 100 < (ji2) then 100 else (ji2)) = ji3 := hji3
  replace H := Option.bind_eq_some_iff.mp H
  obtain ⟨t137, A40, H⟩ := H
  replace H : (if 8 + t137.size ≤ 9223372036854775807 then (if 8 + t137.size + 1 ≤ 9223372036854775807 then (some (((⟨#[27, 93, 57, 59, 52, 59, 50, 59]⟩ : ByteArray) ++ t137) ++ (⟨#[7]⟩ : ByteArray))) else (none)) else (none)) = some r := H
  have A4 := Aside0.mk A40
  clear A40
  by_cases c5 : 8 + t137.size ≤ 9223372036854775807
  · rw [if_pos c5] at H
    have c5b0 := eq_true c5
    have c5b1 : decide (8 + t137.size ≤ 9223372036854775807) = true := decide_eq_true c5
    try have c5b2 : (9223372036854775807 < 8 + t137.size) = False := eq_false (Nat.not_lt.2 c5)
    by_cases c6 : 8 + t137.size + 1 ≤ 9223372036854775807
    · rw [if_pos c6] at H
      have c6b0 := eq_true c6
      have c6b1 : decide (8 + t137.size + 1 ≤ 9223372036854775807) = true := decide_eq_true c6
      try have c6b2 : (9223372036854775807 < 8 + t137.size + 1) = False := eq_false (Nat.not_lt.2 c6)
      obtain rfl := Option.some.inj H
      go_enter Tryd.func69, Tryd.ntmps69
      go_wp2_with (first | ((with_reducible refine gate_callee (f := 109) rfl ?_); refine goesL_ (some 6) rfl rfl Tryd.func109 (by kernel_rfl) rfl #[.int .i64 ji3] rfl (by (try simp only [List.map_toArray, List.map_cons, List.map_nil]); first | done | (simp only [hji3]; rfl) | rfl | (simp only [List.length_drop, List.length_take]; rfl) | (simp [Act.eval, *]; done) | (simp [Act.eval, *]; unfold wrap64; omega)) ?_; (with_reducible refine (strconv_Itoa.calls ji3 t137 _ ?side1 A4.out).mono ?_); (case side1 => exact HLD.out.below (by repeat (first | (with_reducible first | exact HB.out | apply below_alloc | apply Go.Proofs.YtplmmblofhhikaaDoor.Ext.below_bytes | apply pw_below_drewN | apply below_drew1) | exact HB.out))); rintro e w7 ⟨rfl, hb⟩; refine ⟨_, rfl, ?_⟩; have n0_ := Aside0.mk (below_step (by repeat (first | (with_reducible first | exact HB.out | apply below_alloc | apply Go.Proofs.YtplmmblofhhikaaDoor.Ext.below_bytes | apply pw_below_drewN | apply below_drew1) | exact HB.out)) hb); clear HB; have HB := n0_; clear n0_; (try clear hb); (try clear hb2); (try clear hk); (try clear hi)))
      go_ret
      exact ⟨by first | rfl | (simp [errW_none, errW_some] <;> rfl) | (simp only [← hji2, ← hji3]; first | rfl | (simp [errW_none, errW_some] <;> rfl)) | (simp [*, errW_none, errW_some] <;> rfl), by repeat (first | (with_reducible first | exact HB.out | apply below_alloc | apply Go.Proofs.YtplmmblofhhikaaDoor.Ext.below_bytes | apply pw_below_drewN | apply below_drew1) | exact HB.out)⟩
    · rw [if_neg c6] at H
      exact absurd H (by simp)
  · rw [if_neg c5] at H
    exact absurd H (by simp)

/-! ### xansi_SetWarningProgressBar: function 70 -/
def xansi_SetWarningProgressBar.f (a0 : Int) : Option (ByteArray) := (strconv_Itoa.f (mn (mx 0 a0) 100)).bind fun t138 => (if 8 + t138.size ≤ 9223372036854775807 then (if 8 + t138.size + 1 ≤ 9223372036854775807 then (some (((⟨#[27, 93, 57, 59, 52, 59, 52, 59]⟩ : ByteArray) ++ t138) ++ (⟨#[7]⟩ : ByteArray))) else (none)) else (none))
set_option maxHeartbeats 8000000 in
set_option maxRecDepth 100000 in
theorem xansi_SetWarningProgressBar.calls (a0 : Int) (r : ByteArray) (w : World) (hLD : Laid w) (h : xansi_SetWarningProgressBar.f a0 = some r) :
    Calls Tryd.prog 70 #[.int .i64 a0] w fun e w' => e = .returned (.string r) ∧ Below w.heap.size w w' := by
  have HLD := Aside0.mk hLD
  clear hLD
  have HB := Aside0.mk (Below.refl w.heap.size w)
  have H : ((strconv_Itoa.f (mn (mx 0 a0) 100)).bind fun t138 => (if 8 + t138.size ≤ 9223372036854775807 then (if 8 + t138.size + 1 ≤ 9223372036854775807 then (some (((⟨#[27, 93, 57, 59, 52, 59, 52, 59]⟩ : ByteArray) ++ t138) ++ (⟨#[7]⟩ : ByteArray))) else (none)) else (none))) = some r := h
  clear h
  obtain ⟨ji2, hji2⟩ : ∃ j_ : Int, (mx 0 a0) = j_ := ⟨_, rfl⟩
  replace H : ((strconv_Itoa.f (mn (ji2) 100)).bind fun t138 => (if 8 + t138.size ≤ 9223372036854775807 then (if 8 + t138.size + 1 ≤ 9223372036854775807 then (some (((⟨#[27, 93, 57, 59, 52, 59, 52, 59]⟩ : ByteArray) ++ t138) ++ (⟨#[7]⟩ : ByteArray))) else (none)) else (none))) = some r := by first | (rw [hji2] at H; exact H) | (simp only [hji2] at H ⊢; exact H)
  (try (have hji2l : 0 ≤ ji2 := by (rw [← hji2]; unfold mx; (repeat' split) <;> omega)))
  (try (have hji2m : 0 ≤ ji2 := by omega))
  have hji2_ : (if 0 < a0 then a0 else 0) = ji2 := hji2
  obtain ⟨ji3, hji3⟩ : ∃ j_ : Int, (mn (ji2) 100) = j_ := ⟨_, rfl⟩
  replace H : ((strconv_Itoa.f (ji3)).bind fun t138 => (if 8 + t138.size ≤ 9223372036854775807 then (if 8 + t138.size + 1 ≤ 9223372036854775807 then (some (((⟨#[27, 93, 57, 59, 52, 59, 52, 59]⟩ : ByteArray) ++ t138) ++ (⟨#[7]⟩ : ByteArray))) else (none)) else (none))) = some r := by first | (rw [hji3] at H; exact H) | (simp only [hji3] at H ⊢; exact H)
  have hji3_ : (if 100 < (ji2) then 100 else (ji2)) = ji3 := hji3
  replace H := Option.bind_eq_some_iff.mp H
  obtain ⟨t138, A40, H⟩ := H
  replace H : (if 8 + t138.size ≤ 9223372036854775807 then (if 8 + t138.size + 1 ≤ 9223372036854775807 then (some (((⟨#[27, 93, 57, 59, 52, 59, 52, 59]⟩ : ByteArray) ++ t138) ++ (⟨#[7]⟩ : ByteArray))) else (none)) else (none)) = some r := H
  have A4 := Aside0.mk A40
  clear A40
  by_cases c5 : 8 + t138.size ≤ 9223372036854775807
  · rw [if_pos c5] at H
    have c5b0 := eq_true c5
    have c5b1 : decide (8 + t138.size ≤ 9223372036854775807) = true := decide_eq_true c5
    try have c5b2 : (9223372036854775807 < 8 + t138.size) = False := eq_false (Nat.not_lt.2 c5)
    by_cases c6 : 8 + t138.size + 1 ≤ 9223372036854775807
    · rw [if_pos c6] at H
      have c6b0 := eq_true c6
      have c6b1 : decide (8 + t138.size + 1 ≤ 9223372036854775807) = true := decide_eq_true c6
      try have c6b2 : (9223372036854775807 < 8 + t138.size + 1) = False := eq_false (Nat.not_lt.2 c6)
      obtain rfl := Option.some.inj H
      go_enter Tryd.func70, Tryd.ntmps70
      go_wp2_with (first | ((with_reducible refine gate_callee (f := 109) rfl ?_); refine goesL_ (some 6) rfl rfl Tryd.func109 (by kernel_rfl) rfl #[.int .i64 ji3] rfl (by (try simp only [List.map_toArray, List.map_cons, List.map_nil]); first | done | (simp only [hji3]; rfl) | rfl | (simp only [List.length_drop, List.length_take]; rfl) | (simp [Act.eval, *]; done) | (simp [Act.eval, *]; unfold wrap64; omega)) ?_; (with_reducible refine (strconv_Itoa.calls ji3 t138 _ ?side1 A4.out).mono ?_); (case side1 => exact HLD.out.below (by repeat (first | (with_reducible first | exact HB.out | apply below_alloc | apply Go.Proofs.YtplmmblofhhikaaDoor.Ext.below_bytes | apply pw_below_drewN | apply below_drew1) | exact HB.out))); rintro e w7 ⟨rfl, hb⟩; refine ⟨_, rfl, ?_⟩; have n0_ := Aside0.mk (below_step (by repeat (first | (with_reducible first | exact HB.out | apply below_alloc | apply Go.Proofs.YtplmmblofhhikaaDoor.Ext.below_bytes | apply pw_below_drewN | apply below_drew1) | exact HB.out)) hb); clear HB; have HB := n0_; clear n0_; (try clear hb); (try clear hb2); (try clear hk); (try clear hi)))
      go_ret
      exact ⟨by first | rfl | (simp [errW_none, errW_some] <;> rfl) | (simp only [← hji2, ← hji3]; first | rfl | (simp [errW_none, errW_some] <;> rfl)) | (simp [*, errW_none, errW_some] <;> rfl), by repeat (first | (with_reducible first | exact HB.out | apply below_alloc | apply Go.Proofs.YtplmmblofhhikaaDoor.Ext.below_bytes | apply pw_below_drewN | apply below_drew1) | exact HB.out)⟩
    · rw [if_neg c6] at H
      exact absurd H (by simp)
  · rw [if_neg c5] at H
    exact absurd H (by simp)

end Go.Proofs.YtplmmblofhhikaaDoor.PU
