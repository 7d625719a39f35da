-- Written by wip/pp.py, a program of this session, out of the translation. Not trusted: Lean checks it.
import Derived.Test.YtplmmblofhhikaaDoorPXx0
import Derived.Test.YtplmmblofhhikaaDoorPXx4
namespace Go.Proofs.YtplmmblofhhikaaDoor.PX
open Go.RowKit Go.Proofs.YtplmmblofhhikaaDoor.Or Go.Proofs.YtplmmblofhhikaaDoorW.PrintWords Go.Proofs.YtplmmblofhhikaaDoorW.PrintLast Go.Proofs.YtplmmblofhhikaaDoorW.PrintMore
attribute [local go_sem] max2_int min2_int max_two min_two max_three min_three max_four min_four   -- for this text's walks alone
attribute [local go_sem] Go.Proofs.YtplmmblofhhikaaDoor.Ext.wrap64_mod256 Go.Proofs.YtplmmblofhhikaaDoor.Ext.wrap64_mod32 Go.Proofs.YtplmmblofhhikaaDoor.Ext.i64_mod256 Go.Proofs.YtplmmblofhhikaaDoor.Ext.i64_mod32 Go.Proofs.YtplmmblofhhikaaDoor.Ext.i64_u8 Go.Proofs.YtplmmblofhhikaaDoor.Ext.w64_u8 Go.Proofs.YtplmmblofhhikaaDoor.Ext.i64_u32 Go.Proofs.YtplmmblofhhikaaDoor.Ext.w64_u32 
set_option linter.unusedVariables false
set_option linter.unusedSimpArgs false

/-! ### spec_MadeNumber: function 17 -/
def spec_MadeNumber.j0 : Nat → Int → Int → Bool → Option (ByteArray)
  | 0, _, _, _ => none
  | k + 1, x0, x1, x26 => if x26 = true then ((some (([(⟨#[49]⟩ : ByteArray), (⟨#[50]⟩ : ByteArray), (⟨#[52]⟩ : ByteArray)] : List ByteArray) : List ByteArray)).bind fun y188 => (if 0 ≤ (wrap64 (x0 - 31)) then (if (wrap64 (x0 - 31)) < (y188.length : Int) then (if 6 + (rdOf ByteArray.empty y188 (wrap64 (x0 - 31))).size ≤ 9223372036854775807 then (if 6 + (rdOf ByteArray.empty y188 (wrap64 (x0 - 31))).size + 1 ≤ 9223372036854775807 then ((spec_Digits.f k (mn (mx x1 0) 100)).bind fun t192 => (if 6 + (rdOf ByteArray.empty y188 (wrap64 (x0 - 31))).size + 1 + t192.size ≤ 9223372036854775807 then (if 6 + (rdOf ByteArray.empty y188 (wrap64 (x0 - 31))).size + 1 + t192.size + 1 ≤ 9223372036854775807 then (some (((((⟨#[27, 93, 57, 59, 52, 59]⟩ : ByteArray) ++ (rdOf ByteArray.empty y188 (wrap64 (x0 - 31)))) ++ (⟨#[59]⟩ : ByteArray)) ++ t192) ++ (⟨#[7]⟩ : ByteArray))) else (none)) else (none))) else (none)) else (none)) else (none)) else (none))) else ((spec_MadeOnes.f).bind fun t193 => (if 0 ≤ x0 then (if x0 < (t193.length : Int) then ((spec_madeAbove.f k x1 ((rd_T28 t193 x0).f2)).bind fun t198 => (if ((rd_T28 t193 x0).f0).size + t198.size ≤ 9223372036854775807 then (if ((rd_T28 t193 x0).f0).size + t198.size + ((rd_T28 t193 x0).f1).size ≤ 9223372036854775807 then (some ((((rd_T28 t193 x0).f0) ++ t198) ++ ((rd_T28 t193 x0).f1))) else (none)) else (none))) else (none)) else (none)))
def spec_MadeNumber.f (k : Nat) (a0 : Int) (a1 : Int) : Option (ByteArray) := if a0 = 23 then ((spec_Digits.f k (mx a1 0)).bind fun t185 => (if 2 + t185.size ≤ 9223372036854775807 then (if 2 + t185.size + 2 ≤ 9223372036854775807 then (some (((⟨#[27, 91]⟩ : ByteArray) ++ t185) ++ (⟨#[32, 113]⟩ : ByteArray))) else (none)) else (none))) else (if a0 = 29 then ((spec_Digits.f k a1).bind fun t186 => (if 3 + t186.size ≤ 9223372036854775807 then (if 3 + t186.size + 1 ≤ 9223372036854775807 then (some (((⟨#[27, 91, 62]⟩ : ByteArray) ++ t186) ++ (⟨#[109]⟩ : ByteArray))) else (none)) else (none))) else (if a0 = 30 then ((spec_Digits.f k a1).bind fun t187 => (if 5 + t187.size ≤ 9223372036854775807 then (if 5 + t187.size + 1 ≤ 9223372036854775807 then (some (((⟨#[27, 91, 62, 52, 59]⟩ : ByteArray) ++ t187) ++ (⟨#[109]⟩ : ByteArray))) else (none)) else (none))) else (if a0 = 31 then (spec_MadeNumber.j0 k a0 a1 (a0 == 31)) else (if a0 = 32 then (spec_MadeNumber.j0 k a0 a1 (a0 == 32)) else (spec_MadeNumber.j0 k a0 a1 (a0 == 33))))))
theorem spec_MadeNumber.mono_l : ∀ k, (∀ y0 y1 y2, LeO (spec_MadeNumber.j0 k y0 y1 y2) (spec_MadeNumber.j0 (k + 1) y0 y1 y2))
  | 0 => fun _ _ _ r h => by simp [spec_MadeNumber.j0] at h
  | k + 1 => by
    have ih0 := spec_MadeNumber.mono_l k
    · intro y0 y1 y2
      unfold spec_MadeNumber.j0
      repeat' first
      | (with_reducible exact ih0 _ _ _)
      | (with_reducible exact spec_Digits.mono _ _)
      | (with_reducible exact spec_madeAbove.mono _ _ _)
      | (with_reducible exact LeO.refl _)
      | (with_reducible exact LeO.none _)
      | (with_reducible refine LeO.ite ?_ ?_)
      | (with_reducible refine LeO.bind ?_ (fun _ => ?_))
      | exact ih0 _ _ _
      | exact spec_Digits.mono _ _
      | exact spec_madeAbove.mono _ _ _
      | exact LeO.none _
      | refine LeO.ite ?_ ?_
      | refine LeO.bind ?_ (fun _ => ?_)
theorem spec_MadeNumber.mono : ∀ a0 a1 k, LeO (spec_MadeNumber.f k a0 a1) (spec_MadeNumber.f (k + 1) a0 a1) := by
  intro a0 a1 k
  have ih0 := spec_MadeNumber.mono_l k
  unfold spec_MadeNumber.f
  repeat' first
      | (with_reducible exact ih0 _ _ _)
      | (with_reducible exact spec_Digits.mono _ _)
      | (with_reducible exact spec_madeAbove.mono _ _ _)
      | (with_reducible exact LeO.refl _)
      | (with_reducible exact LeO.none _)
      | (with_reducible refine LeO.ite ?_ ?_)
      | (with_reducible refine LeO.bind ?_ (fun _ => ?_))
      | exact ih0 _ _ _
      | exact spec_Digits.mono _ _
      | exact spec_madeAbove.mono _ _ _
      | exact LeO.none _
      | refine LeO.ite ?_ ?_
      | refine LeO.bind ?_ (fun _ => ?_)
def spec_MadeNumber.T11 : Bool × List (List Nat × List Nat) := (true, [([], []), ([], []), ([1], [1]), ([0, 2], [0, 2]), ([3], [3]), ([4], [4]), ([5], [5]), ([], []), ([7], [7]), ([8], [8]), ([9], [9]), ([6, 10], [6, 10]), ([11], [11]), ([12, 10, 0, 1, 2, 3, 4, 5, 6, 7, 8, 9, 10, 11, 12], [12])])
def spec_MadeNumber.B11 : List Nat := [0, 0, 2, 7, 15, 31, 63, 0, 128, 384, 896, 2047, 4095, 8191]
theorem spec_MadeNumber.tab11 : rtab .any (opsOf Tryd.f17 11) = spec_MadeNumber.T11 := by kernel_rfl
theorem spec_MadeNumber.bits11 : waitsOk spec_MadeNumber.T11.2 spec_MadeNumber.B11 = true := by kernel_rfl
def spec_MadeNumber.T13 : Bool × List (List Nat × List Nat) := (true, [([], []), ([0], [0]), ([], []), ([], []), ([3], [3]), ([2, 4], [2, 4]), ([1, 5], [1, 5]), ([], []), ([7], [7]), ([6, 8], [6, 8]), ([9, 5, 0, 1, 2, 3, 4, 5, 6, 7, 8, 9], [9])])
def spec_MadeNumber.B13 : List Nat := [0, 1, 0, 0, 8, 28, 63, 0, 128, 511, 1023]
theorem spec_MadeNumber.tab13 : rtab .any (opsOf Tryd.f17 13) = spec_MadeNumber.T13 := by kernel_rfl
theorem spec_MadeNumber.bits13 : waitsOk spec_MadeNumber.T13.2 spec_MadeNumber.B13 = true := by kernel_rfl
set_option maxHeartbeats 8000000 in
set_option maxRecDepth 100000 in
theorem spec_MadeNumber.calls (k : Nat) (a0 : Int) (a1 : Int) (r : ByteArray) (w : World) (h : spec_MadeNumber.f k a0 a1 = some r) :
    Calls Tryd.prog 17 #[.int .i64 a0, .int .i64 a1] w fun e w' => e = .returned (.string r) ∧ Below w.heap.size w w' := by
  have hu28 := Tryd.underlying28
  have HB := Aside0.mk (Below.refl w.heap.size w)
  have H : (if a0 = 23 then ((spec_Digits.f k (mx a1 0)).bind fun t185 => (if 2 + t185.size ≤ 9223372036854775807 then (if 2 + t185.size + 2 ≤ 9223372036854775807 then (some (((⟨#[27, 91]⟩ : ByteArray) ++ t185) ++ (⟨#[32, 113]⟩ : ByteArray))) else (none)) else (none))) else (if a0 = 29 then ((spec_Digits.f k a1).bind fun t186 => (if 3 + t186.size ≤ 9223372036854775807 then (if 3 + t186.size + 1 ≤ 9223372036854775807 then (some (((⟨#[27, 91, 62]⟩ : ByteArray) ++ t186) ++ (⟨#[109]⟩ : ByteArray))) else (none)) else (none))) else (if a0 = 30 then ((spec_Digits.f k a1).bind fun t187 => (if 5 + t187.size ≤ 9223372036854775807 then (if 5 + t187.size + 1 ≤ 9223372036854775807 then (some (((⟨#[27, 91, 62, 52, 59]⟩ : ByteArray) ++ t187) ++ (⟨#[109]⟩ : ByteArray))) else (none)) else (none))) else (if a0 = 31 then (spec_MadeNumber.j0 k a0 a1 (a0 == 31)) else (if a0 = 32 then (spec_MadeNumber.j0 k a0 a1 (a0 == 32)) else (spec_MadeNumber.j0 k a0 a1 (a0 == 33))))))) = some r := h
  clear h
  by_cases c3 : a0 = 23
  · rw [if_pos c3] at H
    have c3b0 : (a0 == 23) = true := beq_iff_eq.mpr c3
    have c3b1 : (a0 != 23) = false := bne_eq_false_iff_eq.mpr c3
    clear c3
    obtain ⟨ji4, hji4⟩ : ∃ j_ : Int, (mx a1 0) = j_ := ⟨_, rfl⟩
    replace H : ((spec_Digits.f k (ji4)).bind fun t185 => (if 2 + t185.size ≤ 9223372036854775807 then (if 2 + t185.size + 2 ≤ 9223372036854775807 then (some (((⟨#[27, 91]⟩ : ByteArray) ++ t185) ++ (⟨#[32, 113]⟩ : ByteArray))) else (none)) else (none))) = some r := by first | (rw [hji4] at H; exact H) | (simp only [hji4] at H ⊢; exact H)
    (try (have hji4l : 0 ≤ ji4 := by (rw [← hji4]; unfold mx; (repeat' split) <;> omega)))
    (try (have hji4m : 0 ≤ ji4 := by omega))
    have hji4_ : (if a1 < 0 then 0 else a1) = ji4 := hji4
    replace H := Option.bind_eq_some_iff.mp H
    obtain ⟨t185, A50, H⟩ := H
    replace H : (if 2 + t185.size ≤ 9223372036854775807 then (if 2 + t185.size + 2 ≤ 9223372036854775807 then (some (((⟨#[27, 91]⟩ : ByteArray) ++ t185) ++ (⟨#[32, 113]⟩ : ByteArray))) else (none)) else (none)) = some r := H
    have A5 := Aside0.mk A50
    clear A50
    by_cases c6 : 2 + t185.size ≤ 9223372036854775807
    · rw [if_pos c6] at H
      have c6b0 := eq_true c6
      have c6b1 : decide (2 + t185.size ≤ 9223372036854775807) = true := decide_eq_true c6
      try have c6b2 : (9223372036854775807 < 2 + t185.size) = False := eq_false (Nat.not_lt.2 c6)
      by_cases c7 : 2 + t185.size + 2 ≤ 9223372036854775807
      · rw [if_pos c7] at H
        have c7b0 := eq_true c7
        have c7b1 : decide (2 + t185.size + 2 ≤ 9223372036854775807) = true := decide_eq_true c7
        try have c7b2 : (9223372036854775807 < 2 + t185.size + 2) = False := eq_false (Nat.not_lt.2 c7)
        obtain rfl := Option.some.inj H
        go_enter Tryd.func17, Tryd.ntmps17
        go_wp2_with (first | ((with_reducible refine gate_callee (f := 71) rfl ?_); refine goesL_ (some 11) rfl rfl Tryd.func71 (by kernel_rfl) rfl #[.int .i64 ji4] rfl (by (try simp only [List.map_toArray, List.map_cons, List.map_nil]); first | done | (simp only [hji4]; rfl) | rfl | (simp only [List.length_drop, List.length_take]; rfl) | (simp [Act.eval, *]; done)) ?_; (with_reducible refine (spec_Digits.calls k ji4 t185 _ A5.out).mono ?_); rintro e w8 ⟨rfl, hb⟩; refine ⟨_, rfl, ?_⟩; have n0_ := Aside0.mk (below_step (by repeat (first | (with_reducible first | exact HB.out | apply below_alloc | apply pw_below_drewN | apply below_drew1) | exact HB.out)) hb); clear HB; have HB := n0_; clear n0_; (try clear hb); (try clear hb2); (try clear hk); (try clear hi)))
        go_ret
        exact ⟨by first | rfl | (simp [errW_none, errW_some] <;> rfl) | (simp only [← hji4]; first | rfl | (simp [errW_none, errW_some] <;> rfl)) | (simp [*, errW_none, errW_some] <;> rfl), by repeat (first | (with_reducible first | exact HB.out | apply below_alloc | apply pw_below_drewN | apply below_drew1) | exact HB.out)⟩
      · rw [if_neg c7] at H
        exact absurd H (by simp)
    · rw [if_neg c6] at H
      exact absurd H (by simp)
  · rw [if_neg c3] at H
    have c3b0 : (a0 == 23) = false := beq_eq_false_iff_ne.mpr c3
    have c3b1 : (a0 != 23) = true := bne_iff_ne.mpr c3
    by_cases c9 : a0 = 29
    · rw [if_pos c9] at H
      have c9b0 : (a0 == 29) = true := beq_iff_eq.mpr c9
      have c9b1 : (a0 != 29) = false := bne_eq_false_iff_eq.mpr c9
      clear c9
      replace H := Option.bind_eq_some_iff.mp H
      obtain ⟨t186, A100, H⟩ := H
      replace H : (if 3 + t186.size ≤ 9223372036854775807 then (if 3 + t186.size + 1 ≤ 9223372036854775807 then (some (((⟨#[27, 91, 62]⟩ : ByteArray) ++ t186) ++ (⟨#[109]⟩ : ByteArray))) else (none)) else (none)) = some r := H
      have A10 := Aside0.mk A100
      clear A100
      by_cases c11 : 3 + t186.size ≤ 9223372036854775807
      · rw [if_pos c11] at H
        have c11b0 := eq_true c11
        have c11b1 : decide (3 + t186.size ≤ 9223372036854775807) = true := decide_eq_true c11
        try have c11b2 : (9223372036854775807 < 3 + t186.size) = False := eq_false (Nat.not_lt.2 c11)
        by_cases c12 : 3 + t186.size + 1 ≤ 9223372036854775807
        · rw [if_pos c12] at H
          have c12b0 := eq_true c12
          have c12b1 : decide (3 + t186.size + 1 ≤ 9223372036854775807) = true := decide_eq_true c12
          try have c12b2 : (9223372036854775807 < 3 + t186.size + 1) = False := eq_false (Nat.not_lt.2 c12)
          obtain rfl := Option.some.inj H
          go_enter Tryd.func17, Tryd.ntmps17
          go_wp2_with (first | ((with_reducible refine gate_callee (f := 71) rfl ?_); refine goesL_ (some 17) rfl rfl Tryd.func71 (by kernel_rfl) rfl #[.int .i64 a1] rfl (by (try simp only [List.map_toArray, List.map_cons, List.map_nil]); first | done | rfl | (simp only [List.length_drop, List.length_take]; rfl) | (simp [Act.eval, *]; done)) ?_; (with_reducible refine (spec_Digits.calls k a1 t186 _ A10.out).mono ?_); rintro e w13 ⟨rfl, hb⟩; refine ⟨_, rfl, ?_⟩; have n0_ := Aside0.mk (below_step (by repeat (first | (with_reducible first | exact HB.out | apply below_alloc | apply pw_below_drewN | apply below_drew1) | exact HB.out)) hb); clear HB; have HB := n0_; clear n0_; (try clear hb); (try clear hb2); (try clear hk); (try clear hi)))
          go_ret
          exact ⟨by first | rfl | (simp [errW_none, errW_some] <;> rfl) | (simp [*, errW_none, errW_some] <;> rfl), by repeat (first | (with_reducible first | exact HB.out | apply below_alloc | apply pw_below_drewN | apply below_drew1) | exact HB.out)⟩
        · rw [if_neg c12] at H
          exact absurd H (by simp)
      · rw [if_neg c11] at H
        exact absurd H (by simp)
    · rw [if_neg c9] at H
      have c9b0 : (a0 == 29) = false := beq_eq_false_iff_ne.mpr c9
      have c9b1 : (a0 != 29) = true := bne_iff_ne.mpr c9
      by_cases c14 : a0 = 30
      · rw [if_pos c14] at H
        have c14b0 : (a0 == 30) = true := beq_iff_eq.mpr c14
        have c14b1 : (a0 != 30) = false := bne_eq_false_iff_eq.mpr c14
        clear c14
        replace H := Option.bind_eq_some_iff.mp H
        obtain ⟨t187, A150, H⟩ := H
        replace H : (if 5 + t187.size ≤ 9223372036854775807 then (if 5 + t187.size + 1 ≤ 9223372036854775807 then (some (((⟨#[27, 91, 62, 52, 59]⟩ : ByteArray) ++ t187) ++ (⟨#[109]⟩ : ByteArray))) else (none)) else (none)) = some r := H
        have A15 := Aside0.mk A150
        clear A150
        by_cases c16 : 5 + t187.size ≤ 9223372036854775807
        · rw [if_pos c16] at H
          have c16b0 := eq_true c16
          have c16b1 : decide (5 + t187.size ≤ 9223372036854775807) = true := decide_eq_true c16
          try have c16b2 : (9223372036854775807 < 5 + t187.size) = False := eq_false (Nat.not_lt.2 c16)
          by_cases c17 : 5 + t187.size + 1 ≤ 9223372036854775807
          · rw [if_pos c17] at H
            have c17b0 := eq_true c17
            have c17b1 : decide (5 + t187.size + 1 ≤ 9223372036854775807) = true := decide_eq_true c17
            try have c17b2 : (9223372036854775807 < 5 + t187.size + 1) = False := eq_false (Nat.not_lt.2 c17)
            obtain rfl := Option.some.inj H
            go_enter Tryd.func17, Tryd.ntmps17
            go_wp2_with (first | ((with_reducible refine gate_callee (f := 71) rfl ?_); refine goesL_ (some 23) rfl rfl Tryd.func71 (by kernel_rfl) rfl #[.int .i64 a1] rfl (by (try simp only [List.map_toArray, List.map_cons, List.map_nil]); first | done | rfl | (simp only [List.length_drop, List.length_take]; rfl) | (simp [Act.eval, *]; done)) ?_; (with_reducible refine (spec_Digits.calls k a1 t187 _ A15.out).mono ?_); rintro e w18 ⟨rfl, hb⟩; refine ⟨_, rfl, ?_⟩; have n0_ := Aside0.mk (below_step (by repeat (first | (with_reducible first | exact HB.out | apply below_alloc | apply pw_below_drewN | apply below_drew1) | exact HB.out)) hb); clear HB; have HB := n0_; clear n0_; (try clear hb); (try clear hb2); (try clear hk); (try clear hi)))
            go_ret
            exact ⟨by first | rfl | (simp [errW_none, errW_some] <;> rfl) | (simp [*, errW_none, errW_some] <;> rfl), by repeat (first | (with_reducible first | exact HB.out | apply below_alloc | apply pw_below_drewN | apply below_drew1) | exact HB.out)⟩
          · rw [if_neg c17] at H
            exact absurd H (by simp)
        · rw [if_neg c16] at H
          exact absurd H (by simp)
      · rw [if_neg c14] at H
        have c14b0 : (a0 == 30) = false := beq_eq_false_iff_ne.mpr c14
        have c14b1 : (a0 != 30) = true := bne_iff_ne.mpr c14
        have HC19 := Aside0.mk H
        clear H
        go_enter Tryd.func17, Tryd.ntmps17
        go_upto_if 26 with (fail)
        go_cut [26] (fun v26 wc => ∃ (kq : Nat) (x26_18 : Bool), v26 = .bool x26_18 ∧ Aside0 (spec_MadeNumber.j0 kq a0 a1 x26_18 = some r) ∧ Aside0 (kq ≤ k) ∧ Aside0 (Below w.heap.size w wc))
        case first =>
          have H := HC19.out
          clear HC19
          by_cases c20 : a0 = 31
          · rw [if_pos c20] at H
            have c20b0 : (a0 == 31) = true := beq_iff_eq.mpr c20
            have c20b1 : (a0 != 31) = false := bne_eq_false_iff_eq.mpr c20
            clear c20
            (first | rw [c20b0] | (simp only [i64_w, i32_w]; rw [c20b0]) | skip)
            have H' := Aside0.mk H
            clear H
            go_wp2
            go_meet
            case rel => exact ⟨_, ((a0 == 31)), (by first | rfl | (simp; done) | (simp [*]; done)), H', ⟨by first | omega | exact Nat.le_refl _⟩, ⟨by repeat (first | (with_reducible first | exact HB.out | apply below_alloc | apply pw_below_drewN | apply below_drew1) | exact HB.out)⟩⟩
          · rw [if_neg c20] at H
            have c20b0 : (a0 == 31) = false := beq_eq_false_iff_ne.mpr c20
            have c20b1 : (a0 != 31) = true := bne_iff_ne.mpr c20
            (first | rw [c20b0] | (simp only [i64_w, i32_w]; rw [c20b0]) | skip)
            by_cases c21 : a0 = 32
            · rw [if_pos c21] at H
              have c21b0 : (a0 == 32) = true := beq_iff_eq.mpr c21
              have c21b1 : (a0 != 32) = false := bne_eq_false_iff_eq.mpr c21
              clear c21
              have H' := Aside0.mk H
              clear H
              go_wp2
              go_meet
              case rel => exact ⟨_, ((a0 == 32)), (by first | rfl | (simp; done) | (simp [*]; done)), H', ⟨by first | omega | exact Nat.le_refl _⟩, ⟨by repeat (first | (with_reducible first | exact HB.out | apply below_alloc | apply pw_below_drewN | apply below_drew1) | exact HB.out)⟩⟩
            · rw [if_neg c21] at H
              have c21b0 : (a0 == 32) = false := beq_eq_false_iff_ne.mpr c21
              have c21b1 : (a0 != 32) = true := bne_iff_ne.mpr c21
              have H' := Aside0.mk H
              clear H
              go_wp2
              go_meet
              case rel => exact ⟨_, ((a0 == 33)), (by first | rfl | (simp; done) | (simp [*]; done)), H', ⟨by first | omega | exact Nat.le_refl _⟩, ⟨by repeat (first | (with_reducible first | exact HB.out | apply below_alloc | apply pw_below_drewN | apply below_drew1) | exact HB.out)⟩⟩
        case rest =>
          clear HC19
          try clear c1
          try clear c2
          try clear p2
          try clear c3
          try clear c3b0
          try clear c3b1
          try clear c6
          try clear c6b0
          try clear c6b1
          try clear c6b2
          try clear c7
          try clear c7b0
          try clear c7b1
          try clear c7b2
          try clear c9
          try clear c9b0
          try clear c9b1
          try clear c11
          try clear c11b0
          try clear c11b1
          try clear c11b2
          try clear c12
          try clear c12b0
          try clear c12b1
          try clear c12b2
          try clear c14
          try clear c14b0
          try clear c14b1
          try clear c16
          try clear c16b0
          try clear c16b1
          try clear c16b2
          try clear c17
          try clear c17b0
          try clear c17b1
          try clear c17b2
          try clear c20
          try clear c20b0
          try clear c20b1
          try clear c21
          try clear c21b0
          try clear c21b1
          obtain ⟨kq, x26_18, rfl, HA, HJ18, HB⟩ := hcut
          cases kq with
          | zero => exact absurd HA.out (by simp [spec_MadeNumber.j0])
          | succ kj18 =>
            have H := HA.out
            clear HA
            simp only [spec_MadeNumber.j0] at H
            by_cases c22 : x26_18 = true
            · subst c22
              have H1 : ((some (([(⟨#[49]⟩ : ByteArray), (⟨#[50]⟩ : ByteArray), (⟨#[52]⟩ : ByteArray)] : List ByteArray) : List ByteArray)).bind fun y188 => (if 0 ≤ (wrap64 (a0 - 31)) then (if (wrap64 (a0 - 31)) < (y188.length : Int) then (if 6 + (rdOf ByteArray.empty y188 (wrap64 (a0 - 31))).size ≤ 9223372036854775807 then (if 6 + (rdOf ByteArray.empty y188 (wrap64 (a0 - 31))).size + 1 ≤ 9223372036854775807 then ((spec_Digits.f kj18 (mn (mx a1 0) 100)).bind fun t192 => (if 6 + (rdOf ByteArray.empty y188 (wrap64 (a0 - 31))).size + 1 + t192.size ≤ 9223372036854775807 then (if 6 + (rdOf ByteArray.empty y188 (wrap64 (a0 - 31))).size + 1 + t192.size + 1 ≤ 9223372036854775807 then (some (((((⟨#[27, 93, 57, 59, 52, 59]⟩ : ByteArray) ++ (rdOf ByteArray.empty y188 (wrap64 (a0 - 31)))) ++ (⟨#[59]⟩ : ByteArray)) ++ t192) ++ (⟨#[7]⟩ : ByteArray))) else (none)) else (none))) else (none)) else (none)) else (none)) else (none))) = some r := by rw [if_pos rfl] at H; exact H
              clear H
              have H := H1
              clear H1
              obtain ⟨y188, hy188⟩ : ∃ y_ : List ByteArray, y_ = (([(⟨#[49]⟩ : ByteArray), (⟨#[50]⟩ : ByteArray), (⟨#[52]⟩ : ByteArray)] : List ByteArray)) := ⟨_, rfl⟩
              replace H : (if 0 ≤ (wrap64 (a0 - 31)) then (if (wrap64 (a0 - 31)) < (y188.length : Int) then (if 6 + (rdOf ByteArray.empty y188 (wrap64 (a0 - 31))).size ≤ 9223372036854775807 then (if 6 + (rdOf ByteArray.empty y188 (wrap64 (a0 - 31))).size + 1 ≤ 9223372036854775807 then ((spec_Digits.f kj18 (mn (mx a1 0) 100)).bind fun t192 => (if 6 + (rdOf ByteArray.empty y188 (wrap64 (a0 - 31))).size + 1 + t192.size ≤ 9223372036854775807 then (if 6 + (rdOf ByteArray.empty y188 (wrap64 (a0 - 31))).size + 1 + t192.size + 1 ≤ 9223372036854775807 then (some (((((⟨#[27, 93, 57, 59, 52, 59]⟩ : ByteArray) ++ (rdOf ByteArray.empty y188 (wrap64 (a0 - 31)))) ++ (⟨#[59]⟩ : ByteArray)) ++ t192) ++ (⟨#[7]⟩ : ByteArray))) else (none)) else (none))) else (none)) else (none)) else (none)) else (none)) = some r := by first | (rw [hy188]; with_reducible exact H) | (have H2_ := (Option.bind_some _ _).symm.trans H; rw [hy188]; with_reducible exact H2_) | (have H2_ := (Option.bind_some _ _).symm.trans H; with_reducible exact H2_) | with_reducible exact H | (rw [hy188]; exact H) | exact H
              have Ny188 := Aside0.mk hy188
              clear hy188
              obtain ⟨ji23, hji23⟩ : ∃ j_ : Int, (wrap64 (a0 - 31)) = j_ := ⟨_, rfl⟩
              replace H : (if 0 ≤ (ji23) then (if (ji23) < (y188.length : Int) then (if 6 + (rdOf ByteArray.empty y188 (ji23)).size ≤ 9223372036854775807 then (if 6 + (rdOf ByteArray.empty y188 (ji23)).size + 1 ≤ 9223372036854775807 then ((spec_Digits.f kj18 (mn (mx a1 0) 100)).bind fun t192 => (if 6 + (rdOf ByteArray.empty y188 (ji23)).size + 1 + t192.size ≤ 9223372036854775807 then (if 6 + (rdOf ByteArray.empty y188 (ji23)).size + 1 + t192.size + 1 ≤ 9223372036854775807 then (some (((((⟨#[27, 93, 57, 59, 52, 59]⟩ : ByteArray) ++ (rdOf ByteArray.empty y188 (ji23))) ++ (⟨#[59]⟩ : ByteArray)) ++ t192) ++ (⟨#[7]⟩ : ByteArray))) else (none)) else (none))) else (none)) else (none)) else (none)) else (none)) = some r := by first | (rw [hji23] at H; exact H) | (simp only [hji23] at H ⊢; exact H)
              have hji23w : (IntKind.i64.wrap (a0 - 31)) = ji23 := (i64_w _).trans hji23
              by_cases c24 : 0 ≤ (ji23)
              · rw [if_pos c24] at H
                have c24b0 : decide (0 ≤ (ji23)) = true := decide_eq_true c24
                clear c24
                by_cases c25 : (ji23) < (y188.length : Int)
                · rw [if_pos c25] at H
                  have c25b0 : decide ((ji23) < (y188.length : Int)) = true := decide_eq_true c25
                  clear c25
                  by_cases c26 : 6 + (rdOf ByteArray.empty y188 (ji23)).size ≤ 9223372036854775807
                  · rw [if_pos c26] at H
                    have c26b0 := eq_true c26
                    have c26b1 : decide (6 + (rdOf ByteArray.empty y188 (ji23)).size ≤ 9223372036854775807) = true := decide_eq_true c26
                    try have c26b2 : (9223372036854775807 < 6 + (rdOf ByteArray.empty y188 (ji23)).size) = False := eq_false (Nat.not_lt.2 c26)
                    by_cases c27 : 6 + (rdOf ByteArray.empty y188 (ji23)).size + 1 ≤ 9223372036854775807
                    · rw [if_pos c27] at H
                      have c27b0 := eq_true c27
                      have c27b1 : decide (6 + (rdOf ByteArray.empty y188 (ji23)).size + 1 ≤ 9223372036854775807) = true := decide_eq_true c27
                      try have c27b2 : (9223372036854775807 < 6 + (rdOf ByteArray.empty y188 (ji23)).size + 1) = False := eq_false (Nat.not_lt.2 c27)
                      obtain ⟨ji28, hji28⟩ : ∃ j_ : Int, (mx a1 0) = j_ := ⟨_, rfl⟩
                      replace H : ((spec_Digits.f kj18 (mn (ji28) 100)).bind fun t192 => (if 6 + (rdOf ByteArray.empty y188 (ji23)).size + 1 + t192.size ≤ 9223372036854775807 then (if 6 + (rdOf ByteArray.empty y188 (ji23)).size + 1 + t192.size + 1 ≤ 9223372036854775807 then (some (((((⟨#[27, 93, 57, 59, 52, 59]⟩ : ByteArray) ++ (rdOf ByteArray.empty y188 (ji23))) ++ (⟨#[59]⟩ : ByteArray)) ++ t192) ++ (⟨#[7]⟩ : ByteArray))) else (none)) else (none))) = some r := by first | (rw [hji28] at H; exact H) | (simp only [hji28] at H ⊢; exact H)
                      (try (have hji28l : 0 ≤ ji28 := by (rw [← hji28]; unfold mx; (repeat' split) <;> omega)))
                      (try (have hji28m : 0 ≤ ji28 := by omega))
                      have hji28_ : (if a1 < 0 then 0 else a1) = ji28 := hji28
                      obtain ⟨ji29, hji29⟩ : ∃ j_ : Int, (mn (ji28) 100) = j_ := ⟨_, rfl⟩
                      replace H : ((spec_Digits.f kj18 (ji29)).bind fun t192 => (if 6 + (rdOf ByteArray.empty y188 (ji23)).size + 1 + t192.size ≤ 9223372036854775807 then (if 6 + (rdOf ByteArray.empty y188 (ji23)).size + 1 + t192.size + 1 ≤ 9223372036854775807 then (some (((((⟨#[27, 93, 57, 59, 52, 59]⟩ : ByteArray) ++ (rdOf ByteArray.empty y188 (ji23))) ++ (⟨#[59]⟩ : ByteArray)) ++ t192) ++ (⟨#[7]⟩ : ByteArray))) else (none)) else (none))) = some r := by first | (rw [hji29] at H; exact H) | (simp only [hji29] at H ⊢; exact H)
                      have hji29_ : (if 100 < (ji28) then 100 else (ji28)) = ji29 := hji29
                      replace H := Option.bind_eq_some_iff.mp H
                      obtain ⟨t192, A300, H⟩ := H
                      replace H : (if 6 + (rdOf ByteArray.empty y188 (ji23)).size + 1 + t192.size ≤ 9223372036854775807 then (if 6 + (rdOf ByteArray.empty y188 (ji23)).size + 1 + t192.size + 1 ≤ 9223372036854775807 then (some (((((⟨#[27, 93, 57, 59, 52, 59]⟩ : ByteArray) ++ (rdOf ByteArray.empty y188 (ji23))) ++ (⟨#[59]⟩ : ByteArray)) ++ t192) ++ (⟨#[7]⟩ : ByteArray))) else (none)) else (none)) = some r := H
                      have A30 := Aside0.mk A300
                      clear A300
                      by_cases c31 : 6 + (rdOf ByteArray.empty y188 (ji23)).size + 1 + t192.size ≤ 9223372036854775807
                      · rw [if_pos c31] at H
                        have c31b0 := eq_true c31
                        have c31b1 : decide (6 + (rdOf ByteArray.empty y188 (ji23)).size + 1 + t192.size ≤ 9223372036854775807) = true := decide_eq_true c31
                        try have c31b2 : (9223372036854775807 < 6 + (rdOf ByteArray.empty y188 (ji23)).size + 1 + t192.size) = False := eq_false (Nat.not_lt.2 c31)
                        by_cases c32 : 6 + (rdOf ByteArray.empty y188 (ji23)).size + 1 + t192.size + 1 ≤ 9223372036854775807
                        · rw [if_pos c32] at H
                          have c32b0 := eq_true c32
                          have c32b1 : decide (6 + (rdOf ByteArray.empty y188 (ji23)).size + 1 + t192.size + 1 ≤ 9223372036854775807) = true := decide_eq_true c32
                          try have c32b2 : (9223372036854775807 < 6 + (rdOf ByteArray.empty y188 (ji23)).size + 1 + t192.size + 1) = False := eq_false (Nat.not_lt.2 c32)
                          obtain rfl := Option.some.inj H
                          try go_wp2
                          have pi191 : (0 ≤ ((ji23) : Int)) = True := eq_true (of_decide_eq_true (by first | (with_reducible assumption) | assumption))
                          have qi191 : ((ji23) < (y188.length : Int)) = True := eq_true (of_decide_eq_true (by first | (with_reducible assumption) | assumption))
                          have n0_ := Aside0.mk (below_drew1 HB.out)
                          clear HB
                          have HB := n0_
                          clear n0_
                          refine start_ (n := 14) (S := fun w' => True) (ds := []) #[false, false, false, false, false, false, false, false, false, false, false, false, false, false] (by kernel_rfl) rfl rfl trivial (fun hHeld => ?_); refine with_tabW spec_MadeNumber.tab11 spec_MadeNumber.bits11 (fun HT_ HW_ => ?_)
                          generalize wc.drew = w33 at HB hHeld ⊢
                          refine pure_ (i := 1) (N := some 31) (v := ?_) (a' := ?_) #[false, true, false, false, false, false, false, false, false, false, false, false, false, false] rfl rfl (any_of HT_.out (by kernel_rfl)) (fun _ _ _ h => h) (Or.inl ⟨by rfl, ?_⟩) ?_ ?_
                          rotate_left
                          · intro w'
                            go_simp
                            with_reducible rfl
                          rotate_left
                          · simp only [Act.put, List.setIfInBounds_toArray, List.set_cons_zero, List.set_cons_succ, i64_w, i32_w]
                            rfl
                          refine pure_ (i := 7) (N := some 37) (v := ?_) (a' := ?_) #[false, true, false, false, false, false, false, true, false, false, false, false, false, false] rfl rfl (any_of HT_.out (by kernel_rfl)) (fun _ _ _ h => h) (Or.inl ⟨by rfl, ?_⟩) ?_ ?_
                          rotate_left
                          · intro w'
                            go_simp
                            with_reducible rfl
                          rotate_left
                          · simp only [Act.put, List.setIfInBounds_toArray, List.set_cons_zero, List.set_cons_succ, i64_w, i32_w]
                            rfl
                          refine inv_at [0, 2, 3, 4, 5, 6, 8, 9, 10, 11, 12, 13] (fun a0_ b a w' => ∃ (v189 : Value) (adz_v189 : Addr) (m3_ : Value), a = putSel a0_ b [(0, 30, v189), (2, 32, .int .i64 ji23), (3, 33, m3_), (4, 34, .string (rdOf ByteArray.empty y188 (ji23))), (5, 35, .string ((⟨#[27, 93, 57, 59, 52, 59]⟩ : ByteArray) ++ (rdOf ByteArray.empty y188 (ji23)))), (6, 36, .string (((⟨#[27, 93, 57, 59, 52, 59]⟩ : ByteArray) ++ (rdOf ByteArray.empty y188 (ji23))) ++ (⟨#[59]⟩ : ByteArray))), (8, 38, .int .i64 ji28), (9, 39, .int .i64 ji29), (10, 40, .string t192), (11, 41, .string ((((⟨#[27, 93, 57, 59, 52, 59]⟩ : ByteArray) ++ (rdOf ByteArray.empty y188 (ji23))) ++ (⟨#[59]⟩ : ByteArray)) ++ t192)), (12, 42, .string (((((⟨#[27, 93, 57, 59, 52, 59]⟩ : ByteArray) ++ (rdOf ByteArray.empty y188 (ji23))) ++ (⟨#[59]⟩ : ByteArray)) ++ t192) ++ (⟨#[7]⟩ : ByteArray))), (13, 4, .string (((((⟨#[27, 93, 57, 59, 52, 59]⟩ : ByteArray) ++ (rdOf ByteArray.empty y188 (ji23))) ++ (⟨#[59]⟩ : ByteArray)) ++ t192) ++ (⟨#[7]⟩ : ByteArray)))] ∧ (Below w.heap.size w w') ∧ (b 0 = true → Kd.R Kd.string 9 w' w.heap.size (fun _ => True) v189 y188) ∧ (b 0 = true → ∃ c_, (v189 : Value) = .slice (some adz_v189) y188.length c_) ∧ (b 3 = true → (m3_ : Value) = .pointer (some (adz_v189.add ((ji23)).toNat)))) HT_.out HW_.out (by kernel_rfl) (by kernel_rfl) ?_ ?_ ?_
                          · exact ⟨.bool false, ⟨0, 0, none⟩, .bool false, by simp only [putSel, Bool.false_eq_true, if_false], HB.out, fun h_ => absurd h_ (by decide), fun h_ => absurd h_ (by decide), fun h_ => absurd h_ (by decide)⟩
                          · skip
                            clear HB
                            refine steps_cons ?_ ?_
                            · rintro b a w' ⟨v189, adz_v189, m3_, ha, Q_HB, Q_HO190, Q_HA_HO190, Q_X3_⟩ hb_ hon hoff
                              refine ⟨_, rfl, fun K hK => ?_⟩
                              replace ha := Aside0.mk ha
                              have HB := Aside0.mk Q_HB
                              refine Kd.R_lit_step Kd.string _ 9 ?hg (N := 30) ?hd (xs := ([(⟨#[49]⟩ : ByteArray), (⟨#[50]⟩ : ByteArray), (⟨#[52]⟩ : ByteArray)] : List ByteArray)) (inner := [.string (⟨#[49]⟩ : ByteArray), .string (⟨#[50]⟩ : ByteArray), .string (⟨#[52]⟩ : ByteArray)]) (ok := fun _ => True) (okp := fun _ => True) ?hr ?hp (fun _ hk => hk) trivial (Below.refl _ _) (Nat.le_refl _) (by simp) ?_; (case hd => rfl); (case hg => rfl); (case hr => first | (go_simp; done) | (go_simp; rfl)); (case hp => exact (Reps.one (show Kd.M Kd.string _ _ _ (⟨#[49]⟩ : ByteArray) [.string (⟨#[49]⟩ : ByteArray)] from rfl) (Reps.one (show Kd.M Kd.string _ _ _ (⟨#[50]⟩ : ByteArray) [.string (⟨#[50]⟩ : ByteArray)] from rfl) (Reps.one (show Kd.M Kd.string _ _ _ (⟨#[52]⟩ : ByteArray) [.string (⟨#[52]⟩ : ByteArray)] from rfl) (Reps.none _ _)))))
                              intro v189 w34 ho35 hb hg_ hnew_
                              clear hg_ hnew_
                              (first | rw [← Ny188.out] at ho35 | (simp only [Int.reduceToNat] at ho35; rw [← Ny188.out] at ho35))
                              have n0_ := Aside0.mk (Kd.R_lower ho35 (below_size (by repeat (first | (with_reducible first | exact HB.out | apply below_alloc | apply pw_below_drewN | apply below_drew1) | exact HB.out))))
                              have n1_ := Aside0.mk (below_step (by repeat (first | (with_reducible first | exact HB.out | apply below_alloc | apply pw_below_drewN | apply below_drew1) | exact HB.out)) hb)
                              clear HB
                              have HO190 := n0_
                              have HB := n1_
                              clear n0_ n1_
                              clear hb ho35
                              obtain ⟨Ao36, co36, eo36⟩ := Kd.R_slice HO190.out
                              subst eo36
                              obtain ⟨ado36, fo36, _⟩ := Kd.at_string (Kd.R_reads' HO190.out).2.2 0 (by decide) (by rw [Ny188.out]; simp)
                              cases fo36
                              refine hK.out _ _ ⟨.slice (some ado36) y188.length co36, ado36, m3_, (by rw [ha.out]; exact putSel_upk 0 hb_ rfl rfl rfl), (by repeat (first | (with_reducible first | exact HB.out | apply below_alloc | apply pw_below_drewN | apply below_drew1) | exact HB.out)), fun _ => (by (with_reducible repeat (first | apply Kd.R_alloc | apply Kd.R_drewN | apply Kd.R_drew)); exact HO190.out), fun _ => ⟨_, rfl⟩, fun h0_ => absurd ((hoff 3 (by kernel_rfl)).symm.trans h0_) (by decide)⟩
                            refine steps_cons ?_ ?_
                            · rintro b a w' ⟨v189, adz_v189, m3_, ha, Q_HB, Q_HO190, Q_HA_HO190, Q_X3_⟩ hb_ hon hoff
                              refine ⟨_, rfl, fun K hK => ?_⟩
                              have e31 : a.tmps[31]? = some (.int .i64 a0) := by rw [ha]; exact (putSel_off rfl).trans rfl
                              replace ha := Aside0.mk ha
                              have HB := Aside0.mk Q_HB
                              refine value_ (w1 := w') (v := .int .i64 ji23) (by rfl) rfl ?_ ?_
                              · go_simp
                                (try simp only [i64_w])
                                try rfl
                              refine hK.out _ _ ⟨v189, adz_v189, m3_, (by rw [ha.out]; exact putSel_upk 1 hb_ rfl rfl rfl), Q_HB, Q_HO190, Q_HA_HO190, fun h0_ => absurd ((hoff 3 (by kernel_rfl)).symm.trans h0_) (by decide)⟩
                            refine steps_cons ?_ ?_
                            · rintro b a w' ⟨v189, adz_v189, m3_, ha, Q_HB, Q_HO190, Q_HA_HO190, Q_X3_⟩ hb_ hon hoff
                              refine ⟨_, rfl, fun K hK => ?_⟩
                              have e30 : a.tmps[30]? = some (v189) := by rw [ha]; exact putSel_on (e := (0, 30, v189)) 0 rfl rfl (hon 0 (by kernel_rfl)) rfl
                              have e32 : a.tmps[32]? = some (.int .i64 ji23) := by rw [ha]; exact putSel_on (e := (2, 32, .int .i64 ji23)) 1 rfl rfl (hon 2 (by kernel_rfl)) rfl
                              replace ha := Aside0.mk ha
                              have HB := Aside0.mk Q_HB
                              have HO190 := Aside0.mk (Q_HO190 (hon 0 (by kernel_rfl)))
                              have HA_HO190 := Aside0.mk (Q_HA_HO190 (hon 0 (by kernel_rfl)))
                              obtain ⟨c_, hv_⟩ := HA_HO190.out
                              rw [hv_] at e30
                              refine value_ (w1 := w') (v := .pointer (some (adz_v189.add ((ji23)).toNat))) (by rfl) rfl ?_ ?_
                              · go_simp
                                (try simp only [i64_w])
                                try rfl
                              refine hK.out _ _ ⟨v189, adz_v189, (.pointer (some (adz_v189.add ((ji23)).toNat))), (by rw [ha.out]; exact putSel_upk 2 hb_ rfl rfl rfl), Q_HB, Q_HO190, Q_HA_HO190, fun _ => rfl⟩
                            refine steps_cons ?_ ?_
                            · rintro b a w' ⟨v189, adz_v189, m3_, ha, Q_HB, Q_HO190, Q_HA_HO190, Q_X3_⟩ hb_ hon hoff
                              refine ⟨_, rfl, fun K hK => ?_⟩
                              have e33 : a.tmps[33]? = some (m3_) := by rw [ha]; exact putSel_on (e := (3, 33, m3_)) 2 rfl rfl (hon 3 (by kernel_rfl)) rfl
                              rw [Q_X3_ (hon 3 (by kernel_rfl))] at e33
                              replace ha := Aside0.mk ha
                              have HB := Aside0.mk Q_HB
                              have HO190 := Aside0.mk (Q_HO190 (hon 0 (by kernel_rfl)))
                              have HA_HO190 := Aside0.mk (Q_HA_HO190 (hon 0 (by kernel_rfl)))
                              obtain ⟨c_, hv_⟩ := HA_HO190.out
                              have hF_ := HO190.out
                              rw [hv_] at hF_
                              obtain ⟨ad_, ea_, hx_⟩ := Kd.at_string (Kd.R_reads' hF_).2.2 (ji23) (of_eq_true pi191) (of_eq_true qi191)
                              cases ea_
                              refine value_ (w1 := w') (v := .string (rdOf ByteArray.empty y188 (ji23))) (by rfl) rfl ?_ ?_
                              · go_simp
                                (try simp only [i64_w])
                                try rfl
                              refine hK.out _ _ ⟨v189, adz_v189, m3_, (by rw [ha.out]; exact putSel_upk 3 hb_ rfl rfl rfl), Q_HB, Q_HO190, Q_HA_HO190, Q_X3_⟩
                            refine steps_cons ?_ ?_
                            · rintro b a w' ⟨v189, adz_v189, m3_, ha, Q_HB, Q_HO190, Q_HA_HO190, Q_X3_⟩ hb_ hon hoff
                              refine ⟨_, rfl, fun K hK => ?_⟩
                              have e34 : a.tmps[34]? = some (.string (rdOf ByteArray.empty y188 (ji23))) := by rw [ha]; exact putSel_on (e := (4, 34, .string (rdOf ByteArray.empty y188 (ji23)))) 3 rfl rfl (hon 4 (by kernel_rfl)) rfl
                              replace ha := Aside0.mk ha
                              have HB := Aside0.mk Q_HB
                              have HO190 := Aside0.mk (Q_HO190 (hon 0 (by kernel_rfl)))
                              have HA_HO190 := Aside0.mk (Q_HA_HO190 (hon 0 (by kernel_rfl)))
                              refine value_ (w1 := w') (v := .string ((⟨#[27, 93, 57, 59, 52, 59]⟩ : ByteArray) ++ (rdOf ByteArray.empty y188 (ji23)))) (by rfl) rfl ?_ ?_
                              · go_simp
                                (try simp only [i64_w])
                                try rfl
                              refine hK.out _ _ ⟨v189, adz_v189, m3_, (by rw [ha.out]; exact putSel_upk 4 hb_ rfl rfl rfl), Q_HB, Q_HO190, Q_HA_HO190, Q_X3_⟩
                            refine steps_cons ?_ ?_
                            · rintro b a w' ⟨v189, adz_v189, m3_, ha, Q_HB, Q_HO190, Q_HA_HO190, Q_X3_⟩ hb_ hon hoff
                              refine ⟨_, rfl, fun K hK => ?_⟩
                              have e35 : a.tmps[35]? = some (.string ((⟨#[27, 93, 57, 59, 52, 59]⟩ : ByteArray) ++ (rdOf ByteArray.empty y188 (ji23)))) := by rw [ha]; exact putSel_on (e := (5, 35, .string ((⟨#[27, 93, 57, 59, 52, 59]⟩ : ByteArray) ++ (rdOf ByteArray.empty y188 (ji23))))) 4 rfl rfl (hon 5 (by kernel_rfl)) rfl
                              replace ha := Aside0.mk ha
                              have HB := Aside0.mk Q_HB
                              have HO190 := Aside0.mk (Q_HO190 (hon 0 (by kernel_rfl)))
                              have HA_HO190 := Aside0.mk (Q_HA_HO190 (hon 0 (by kernel_rfl)))
                              refine value_ (w1 := w') (v := .string (((⟨#[27, 93, 57, 59, 52, 59]⟩ : ByteArray) ++ (rdOf ByteArray.empty y188 (ji23))) ++ (⟨#[59]⟩ : ByteArray))) (by rfl) rfl ?_ ?_
                              · go_simp
                                (try simp only [i64_w])
                                try rfl
                              refine hK.out _ _ ⟨v189, adz_v189, m3_, (by rw [ha.out]; exact putSel_upk 5 hb_ rfl rfl rfl), Q_HB, Q_HO190, Q_HA_HO190, Q_X3_⟩
                            refine steps_cons ?_ ?_
                            · rintro b a w' ⟨v189, adz_v189, m3_, ha, Q_HB, Q_HO190, Q_HA_HO190, Q_X3_⟩ hb_ hon hoff
                              refine ⟨_, rfl, fun K hK => ?_⟩
                              have e37 : a.tmps[37]? = some (.int .i64 a1) := by rw [ha]; exact (putSel_off rfl).trans rfl
                              replace ha := Aside0.mk ha
                              have HB := Aside0.mk Q_HB
                              refine value_ (w1 := w') (v := .int .i64 ji28) (by rfl) rfl ?_ ?_
                              · go_simp
                                (try simp only [i64_w])
                                try rfl
                              refine hK.out _ _ ⟨v189, adz_v189, m3_, (by rw [ha.out]; exact putSel_upk 6 hb_ rfl rfl rfl), Q_HB, Q_HO190, Q_HA_HO190, Q_X3_⟩
                            refine steps_cons ?_ ?_
                            · rintro b a w' ⟨v189, adz_v189, m3_, ha, Q_HB, Q_HO190, Q_HA_HO190, Q_X3_⟩ hb_ hon hoff
                              refine ⟨_, rfl, fun K hK => ?_⟩
                              have e38 : a.tmps[38]? = some (.int .i64 ji28) := by rw [ha]; exact putSel_on (e := (8, 38, .int .i64 ji28)) 6 rfl rfl (hon 8 (by kernel_rfl)) rfl
                              replace ha := Aside0.mk ha
                              have HB := Aside0.mk Q_HB
                              refine value_ (w1 := w') (v := .int .i64 ji29) (by rfl) rfl ?_ ?_
                              · go_simp
                                (try simp only [i64_w])
                                try rfl
                              refine hK.out _ _ ⟨v189, adz_v189, m3_, (by rw [ha.out]; exact putSel_upk 7 hb_ rfl rfl rfl), Q_HB, Q_HO190, Q_HA_HO190, Q_X3_⟩
                            refine steps_cons ?_ ?_
                            · rintro b a w' ⟨v189, adz_v189, m3_, ha, Q_HB, Q_HO190, Q_HA_HO190, Q_X3_⟩ hb_ hon hoff
                              refine ⟨_, rfl, fun K hK => ?_⟩
                              have e39 : a.tmps[39]? = some (.int .i64 ji29) := by rw [ha]; exact putSel_on (e := (9, 39, .int .i64 ji29)) 7 rfl rfl (hon 9 (by kernel_rfl)) rfl
                              replace ha := Aside0.mk ha
                              have HB := Aside0.mk Q_HB
                              refine goes_ Tryd.func71 (by kernel_rfl) rfl #[.int .i64 ji29] (by rfl) rfl rfl (by (try simp only [List.map_toArray, List.map_cons, List.map_nil]); first | done | (simp only [hji29]; rfl) | rfl | (simp only [List.length_drop, List.length_take]; rfl) | (simp [Act.eval, *]; done)) ?_
                              with_reducible refine (spec_Digits.calls kj18 ji29 t192 _ A30.out).mono ?_
                              rintro e w34 ⟨rfl, hb⟩
                              refine ⟨_, rfl, ?_⟩
                              have n0_ := Aside0.mk (below_step (by repeat (first | (with_reducible first | exact HB.out | apply below_alloc | apply pw_below_drewN | apply below_drew1) | exact HB.out)) hb)
                              have z_HO190 := fun (h0_ : b 0 = true) => (show Kd.R Kd.string 9 w34 w.heap.size (fun _ => True) v189 y188 from by first | exact (Kd.R_below (by (with_reducible repeat (first | apply Kd.R_alloc | apply Kd.R_drewN | apply Kd.R_drew)); exact (Q_HO190 h0_)) hb) | exact Kd.R_mono (Kd.R_below (by (with_reducible repeat (first | apply Kd.R_alloc | apply Kd.R_drewN | apply Kd.R_drew)); exact (Q_HO190 h0_)) hb) (fun _ h_ => by first | trivial | exact h_ | exact h_.1))
                              clear HB
                              have HB := n0_
                              clear n0_
                              (try clear hb)
                              (try clear hb2)
                              (try clear hk)
                              (try clear hi)
                              refine hK.out _ _ ⟨v189, adz_v189, m3_, (by rw [ha.out]; exact putSel_upk 8 hb_ rfl rfl rfl), (by repeat (first | (with_reducible first | exact HB.out | apply below_alloc | apply pw_below_drewN | apply below_drew1) | exact HB.out)), z_HO190, Q_HA_HO190, Q_X3_⟩
                            refine steps_cons ?_ ?_
                            · rintro b a w' ⟨v189, adz_v189, m3_, ha, Q_HB, Q_HO190, Q_HA_HO190, Q_X3_⟩ hb_ hon hoff
                              refine ⟨_, rfl, fun K hK => ?_⟩
                              have e36 : a.tmps[36]? = some (.string (((⟨#[27, 93, 57, 59, 52, 59]⟩ : ByteArray) ++ (rdOf ByteArray.empty y188 (ji23))) ++ (⟨#[59]⟩ : ByteArray))) := by rw [ha]; exact putSel_on (e := (6, 36, .string (((⟨#[27, 93, 57, 59, 52, 59]⟩ : ByteArray) ++ (rdOf ByteArray.empty y188 (ji23))) ++ (⟨#[59]⟩ : ByteArray)))) 5 rfl rfl (hon 6 (by kernel_rfl)) rfl
                              have e40 : a.tmps[40]? = some (.string t192) := by rw [ha]; exact putSel_on (e := (10, 40, .string t192)) 8 rfl rfl (hon 10 (by kernel_rfl)) rfl
                              replace ha := Aside0.mk ha
                              have HB := Aside0.mk Q_HB
                              have HO190 := Aside0.mk (Q_HO190 (hon 0 (by kernel_rfl)))
                              have HA_HO190 := Aside0.mk (Q_HA_HO190 (hon 0 (by kernel_rfl)))
                              refine value_ (w1 := w') (v := .string ((((⟨#[27, 93, 57, 59, 52, 59]⟩ : ByteArray) ++ (rdOf ByteArray.empty y188 (ji23))) ++ (⟨#[59]⟩ : ByteArray)) ++ t192)) (by rfl) rfl ?_ ?_
                              · go_simp
                                (try simp only [i64_w])
                                try rfl
                              refine hK.out _ _ ⟨v189, adz_v189, m3_, (by rw [ha.out]; exact putSel_upk 9 hb_ rfl rfl rfl), Q_HB, Q_HO190, Q_HA_HO190, Q_X3_⟩
                            refine steps_cons ?_ ?_
                            · rintro b a w' ⟨v189, adz_v189, m3_, ha, Q_HB, Q_HO190, Q_HA_HO190, Q_X3_⟩ hb_ hon hoff
                              refine ⟨_, rfl, fun K hK => ?_⟩
                              have e41 : a.tmps[41]? = some (.string ((((⟨#[27, 93, 57, 59, 52, 59]⟩ : ByteArray) ++ (rdOf ByteArray.empty y188 (ji23))) ++ (⟨#[59]⟩ : ByteArray)) ++ t192)) := by rw [ha]; exact putSel_on (e := (11, 41, .string ((((⟨#[27, 93, 57, 59, 52, 59]⟩ : ByteArray) ++ (rdOf ByteArray.empty y188 (ji23))) ++ (⟨#[59]⟩ : ByteArray)) ++ t192))) 9 rfl rfl (hon 11 (by kernel_rfl)) rfl
                              replace ha := Aside0.mk ha
                              have HB := Aside0.mk Q_HB
                              have HO190 := Aside0.mk (Q_HO190 (hon 0 (by kernel_rfl)))
                              have HA_HO190 := Aside0.mk (Q_HA_HO190 (hon 0 (by kernel_rfl)))
                              refine value_ (w1 := w') (v := .string (((((⟨#[27, 93, 57, 59, 52, 59]⟩ : ByteArray) ++ (rdOf ByteArray.empty y188 (ji23))) ++ (⟨#[59]⟩ : ByteArray)) ++ t192) ++ (⟨#[7]⟩ : ByteArray))) (by rfl) rfl ?_ ?_
                              · go_simp
                                (try simp only [i64_w])
                                try rfl
                              refine hK.out _ _ ⟨v189, adz_v189, m3_, (by rw [ha.out]; exact putSel_upk 10 hb_ rfl rfl rfl), Q_HB, Q_HO190, Q_HA_HO190, Q_X3_⟩
                            refine steps_cons ?_ ?_
                            · rintro b a w' ⟨v189, adz_v189, m3_, ha, Q_HB, Q_HO190, Q_HA_HO190, Q_X3_⟩ hb_ hon hoff
                              refine ⟨_, rfl, fun K hK => ?_⟩
                              have e42 : a.tmps[42]? = some (.string (((((⟨#[27, 93, 57, 59, 52, 59]⟩ : ByteArray) ++ (rdOf ByteArray.empty y188 (ji23))) ++ (⟨#[59]⟩ : ByteArray)) ++ t192) ++ (⟨#[7]⟩ : ByteArray))) := by rw [ha]; exact putSel_on (e := (12, 42, .string (((((⟨#[27, 93, 57, 59, 52, 59]⟩ : ByteArray) ++ (rdOf ByteArray.empty y188 (ji23))) ++ (⟨#[59]⟩ : ByteArray)) ++ t192) ++ (⟨#[7]⟩ : ByteArray)))) 10 rfl rfl (hon 12 (by kernel_rfl)) rfl
                              replace ha := Aside0.mk ha
                              have HB := Aside0.mk Q_HB
                              have HO190 := Aside0.mk (Q_HO190 (hon 0 (by kernel_rfl)))
                              have HA_HO190 := Aside0.mk (Q_HA_HO190 (hon 0 (by kernel_rfl)))
                              refine value_ (w1 := w') (v := .string (((((⟨#[27, 93, 57, 59, 52, 59]⟩ : ByteArray) ++ (rdOf ByteArray.empty y188 (ji23))) ++ (⟨#[59]⟩ : ByteArray)) ++ t192) ++ (⟨#[7]⟩ : ByteArray))) (by rfl) rfl ?_ ?_
                              · go_simp
                                (try simp only [i64_w])
                                try rfl
                              refine hK.out _ _ ⟨v189, adz_v189, m3_, (by rw [ha.out]; exact putSel_upk 11 hb_ rfl rfl rfl), Q_HB, Q_HO190, Q_HA_HO190, Q_X3_⟩
                            exact steps_nil
                          rintro b a w38 hall ⟨v189, adz_v189, m3_, ha, Q_HB, Q_HO190, Q_HA_HO190, Q_X3_⟩
                          clear HB
                          have hb0_ := hall 0 (by kernel_rfl)
                          have hb2_ := hall 2 (by kernel_rfl)
                          have hb3_ := hall 3 (by kernel_rfl)
                          have hb4_ := hall 4 (by kernel_rfl)
                          have hb5_ := hall 5 (by kernel_rfl)
                          have hb6_ := hall 6 (by kernel_rfl)
                          have hb8_ := hall 8 (by kernel_rfl)
                          have hb9_ := hall 9 (by kernel_rfl)
                          have hb10_ := hall 10 (by kernel_rfl)
                          have hb11_ := hall 11 (by kernel_rfl)
                          have hb12_ := hall 12 (by kernel_rfl)
                          have hb13_ := hall 13 (by kernel_rfl)
                          subst ha
                          obtain rfl := Q_X3_ hb3_
                          simp only [putSel, hb0_, hb2_, hb3_, hb4_, hb5_, hb6_, hb8_, hb9_, hb10_, hb11_, hb12_, hb13_, if_true, Act.put, List.setIfInBounds_toArray, List.set_cons_zero, List.set_cons_succ]
                          have HB := Aside0.mk Q_HB
                          clear Q_HB
                          have HO190 := Aside0.mk (Q_HO190 hb0_)
                          clear Q_HO190
                          have HA_HO190 := Aside0.mk (Q_HA_HO190 hb0_)
                          clear Q_HA_HO190
                          clear hall hb0_ hb2_ hb3_ hb4_ hb5_ hb6_ hb8_ hb9_ hb10_ hb11_ hb12_ hb13_
                          obtain ⟨co39, eo39⟩ := HA_HO190.out
                          clear HA_HO190
                          subst eo39
                          try go_wp2
                          go_ret
                          exact ⟨by first | rfl | (simp [errW_none, errW_some] <;> rfl) | (simp only [← hji23, ← hji28, ← hji29]; first | rfl | (simp [errW_none, errW_some] <;> rfl)) | (simp [*, errW_none, errW_some] <;> rfl), by repeat (first | (with_reducible first | exact HB.out | apply below_alloc | apply pw_below_drewN | apply below_drew1) | exact HB.out)⟩
                        · rw [if_neg c32] at H
                          exact absurd H (by simp)
                      · rw [if_neg c31] at H
                        exact absurd H (by simp)
                    · rw [if_neg c27] at H
                      exact absurd H (by simp)
                  · rw [if_neg c26] at H
                    exact absurd H (by simp)
                · rw [if_neg c25] at H
                  exact absurd H (by simp)
              · rw [if_neg c24] at H
                exact absurd H (by simp)
            · replace c22 := Bool.eq_false_iff.mpr c22
              subst c22
              have H1 : ((spec_MadeOnes.f).bind fun t193 => (if 0 ≤ a0 then (if a0 < (t193.length : Int) then ((spec_madeAbove.f kj18 a1 ((rd_T28 t193 a0).f2)).bind fun t198 => (if ((rd_T28 t193 a0).f0).size + t198.size ≤ 9223372036854775807 then (if ((rd_T28 t193 a0).f0).size + t198.size + ((rd_T28 t193 a0).f1).size ≤ 9223372036854775807 then (some ((((rd_T28 t193 a0).f0) ++ t198) ++ ((rd_T28 t193 a0).f1))) else (none)) else (none))) else (none)) else (none))) = some r := by rw [if_neg (show ¬ (false = true) by decide)] at H; exact H
              clear H
              have H := H1
              clear H1
              replace H := Option.bind_eq_some_iff.mp H
              obtain ⟨t193, A400, H⟩ := H
              replace H : (if 0 ≤ a0 then (if a0 < (t193.length : Int) then ((spec_madeAbove.f kj18 a1 ((rd_T28 t193 a0).f2)).bind fun t198 => (if ((rd_T28 t193 a0).f0).size + t198.size ≤ 9223372036854775807 then (if ((rd_T28 t193 a0).f0).size + t198.size + ((rd_T28 t193 a0).f1).size ≤ 9223372036854775807 then (some ((((rd_T28 t193 a0).f0) ++ t198) ++ ((rd_T28 t193 a0).f1))) else (none)) else (none))) else (none)) else (none)) = some r := H
              have A40 := Aside0.mk A400
              clear A400
              by_cases c41 : 0 ≤ a0
              · rw [if_pos c41] at H
                have c41b0 : decide (0 ≤ a0) = true := decide_eq_true c41
                clear c41
                by_cases c42 : a0 < (t193.length : Int)
                · rw [if_pos c42] at H
                  have c42b0 : decide (a0 < (t193.length : Int)) = true := decide_eq_true c42
                  clear c42
                  replace H := Option.bind_eq_some_iff.mp H
                  obtain ⟨t198, A430, H⟩ := H
                  replace H : (if ((rd_T28 t193 a0).f0).size + t198.size ≤ 9223372036854775807 then (if ((rd_T28 t193 a0).f0).size + t198.size + ((rd_T28 t193 a0).f1).size ≤ 9223372036854775807 then (some ((((rd_T28 t193 a0).f0) ++ t198) ++ ((rd_T28 t193 a0).f1))) else (none)) else (none)) = some r := H
                  have A43 := Aside0.mk A430
                  clear A430
                  by_cases c44 : ((rd_T28 t193 a0).f0).size + t198.size ≤ 9223372036854775807
                  · rw [if_pos c44] at H
                    have c44b0 := eq_true c44
                    have c44b1 : decide (((rd_T28 t193 a0).f0).size + t198.size ≤ 9223372036854775807) = true := decide_eq_true c44
                    try have c44b2 : (9223372036854775807 < ((rd_T28 t193 a0).f0).size + t198.size) = False := eq_false (Nat.not_lt.2 c44)
                    by_cases c45 : ((rd_T28 t193 a0).f0).size + t198.size + ((rd_T28 t193 a0).f1).size ≤ 9223372036854775807
                    · rw [if_pos c45] at H
                      have c45b0 := eq_true c45
                      have c45b1 : decide (((rd_T28 t193 a0).f0).size + t198.size + ((rd_T28 t193 a0).f1).size ≤ 9223372036854775807) = true := decide_eq_true c45
                      try have c45b2 : (9223372036854775807 < ((rd_T28 t193 a0).f0).size + t198.size + ((rd_T28 t193 a0).f1).size) = False := eq_false (Nat.not_lt.2 c45)
                      obtain rfl := Option.some.inj H
                      try go_wp2_with (first | ((with_reducible refine gate_callee (f := 18) rfl ?_); refine goesL_ (some 43) rfl rfl Tryd.func18 (by kernel_rfl) rfl #[] rfl (by (try simp only [List.map_toArray, List.map_cons, List.map_nil]); first | done | rfl | (simp only [List.length_drop, List.length_take]; rfl) | (simp [Act.eval, *]; done)) ?_; (with_reducible refine (spec_MadeOnes.calls  t193 _ A40.out).mono ?_); rintro e w46 ⟨v194, rfl, ho0, hb⟩; refine ⟨_, rfl, ?_⟩; have n0_ := Aside0.mk (Kd.R_lower ho0 (below_size (by repeat (first | (with_reducible first | exact HB.out | apply below_alloc | apply pw_below_drewN | apply below_drew1) | exact HB.out)))); have n1_ := Aside0.mk (below_step (by repeat (first | (with_reducible first | exact HB.out | apply below_alloc | apply pw_below_drewN | apply below_drew1) | exact HB.out)) hb); clear HB; have HO195 := n0_; have HB := n1_; clear n0_ n1_; (try clear hb); (try clear hb2); (try clear hk); (try clear hi); (try clear ho0); obtain ⟨Ao47, co47, eo47⟩ := Kd.R_slice HO195.out; subst eo47; have p196 : 0 ≤ (a0 : Int) := of_decide_eq_true (by first | (with_reducible assumption) | assumption); have q196 : a0 < (t193.length : Int) := of_decide_eq_true (by first | (with_reducible assumption) | assumption); obtain ⟨ad196, e196, hx196_0, hx196_1, hx196_2⟩ := at_T28 (Kd.R_reads' HO195.out).2.2 a0 p196 q196; cases e196; replace p196 := eq_true p196; replace q196 := eq_true q196) | ((with_reducible refine gate_dst (N := 5) rfl ?_); refine box_event ?hg (N := 5) ?hd (cs := #[.string (⟨#[]⟩ : ByteArray), .string (⟨#[]⟩ : ByteArray), .int .i64 0]) (t := 28) ?hr ?_; (case hd => rfl); (case hg => rfl); (case hr => first | (go_simp; done) | (go_simp; rfl)); intro gb197 hg w48 hbox hb; have n0_ := Aside0.mk (Kd.R_below (Kd.R_elderB (by (with_reducible repeat (first | apply Kd.R_alloc | apply Kd.R_drewN | apply Kd.R_drew)); exact HO195.out) gb197 (Nat.le_of_eq hg.symm)) hb); have n1_ := Aside0.mk (below_step (by repeat (first | (with_reducible first | exact HB.out | apply below_alloc | apply pw_below_drewN | apply below_drew1) | exact HB.out)) hb); have n2_ := Aside0.mk (hbox); have n3_ := Aside0.mk ((by rw [hg]; exact (below_size (by repeat (first | (with_reducible first | exact HB.out | apply below_alloc | apply pw_below_drewN | apply below_drew1) | exact HB.out))) : w.heap.size ≤ gb197)); have n4_ := Aside0.mk ((by rw [hg]; exact (below_size (by repeat (first | (with_reducible first | exact HB.out | apply below_alloc | apply pw_below_drewN | apply below_drew1) | exact HB.out))) : w.heap.size ≤ gb197)); clear HO195; clear HB; have HO195 := n0_; have HB := n1_; have BK197 := n2_; have GW197 := n3_; have GE197 := n4_; clear n0_ n1_ n2_ n3_ n4_; clear hb hbox hg; have hcz49_0 : w48.cell? ⟨gb197, 0, none⟩ = some (.string (⟨#[]⟩ : ByteArray)) := (blk_cell BK197.out 0).trans rfl; have hcz49_1 : w48.cell? ⟨gb197, 1, none⟩ = some (.string (⟨#[]⟩ : ByteArray)) := (blk_cell BK197.out 1).trans rfl; have hcz49_2 : w48.cell? ⟨gb197, 2, none⟩ = some (.int .i64 0) := (blk_cell BK197.out 2).trans rfl; have hfz49_0 := blk_frozen BK197.out 0; have hfz49_1 := blk_frozen BK197.out 1; have hfz49_2 := blk_frozen BK197.out 2))
                      have n0_ : Aside0 (Kd.R k28 28 (((w48.setCell ⟨gb197, 0, none⟩ (.string ((rd_T28 t193 a0).f0))).setCell ⟨gb197, 1, none⟩ (.string ((rd_T28 t193 a0).f1))).setCell ⟨gb197, 2, none⟩ (.int .i64 ((rd_T28 t193 a0).f2))) w.heap.size (fun k_ => k_ ≠ gb197) (.slice (some ad196) t193.length co47) t193) := ⟨by (with_reducible repeat (first | apply Kd.R_alloc | apply Kd.R_drewN | apply Kd.R_drew)); exact Kd.R_mono (Kd.R_far (p := ⟨gb197, 2, none⟩) (Kd.R_far (p := ⟨gb197, 1, none⟩) (Kd.R_far (p := ⟨gb197, 0, none⟩) (Kd.R_mono HO195.out (fun k_ hk => (⟨hk, hk.2⟩ : _ ∧ k_ ≠ gb197))) (fun _ hk => hk.2) (.string ((rd_T28 t193 a0).f0))) (fun _ hk => hk.2) (.string ((rd_T28 t193 a0).f1))) (fun _ hk => hk.2) (.int .i64 ((rd_T28 t193 a0).f2))) (fun _ hk => hk.1.2)⟩
                      have n1_ : Aside0 ((((w48.setCell ⟨gb197, 0, none⟩ (.string ((rd_T28 t193 a0).f0))).setCell ⟨gb197, 1, none⟩ (.string ((rd_T28 t193 a0).f1))).setCell ⟨gb197, 2, none⟩ (.int .i64 ((rd_T28 t193 a0).f2))).heap[gb197]? = some (.cells #[.string ((rd_T28 t193 a0).f0), .string ((rd_T28 t193 a0).f1), .int .i64 ((rd_T28 t193 a0).f2)] 28 (0, 0))) := ⟨by (with_reducible repeat (first | refine blk_drewN ?_ _ | refine blk_drew ?_ | refine blk_alloc ?_ _)); refine blk_put (cs := #[.string ((rd_T28 t193 a0).f0), .string ((rd_T28 t193 a0).f1), .int .i64 0]) ?_ 2 _ rfl; (with_reducible repeat (first | refine blk_drewN ?_ _ | refine blk_drew ?_ | refine blk_alloc ?_ _)); refine blk_put (cs := #[.string ((rd_T28 t193 a0).f0), .string (⟨#[]⟩ : ByteArray), .int .i64 0]) ?_ 1 _ rfl; (with_reducible repeat (first | refine blk_drewN ?_ _ | refine blk_drew ?_ | refine blk_alloc ?_ _)); refine blk_put (cs := #[.string (⟨#[]⟩ : ByteArray), .string (⟨#[]⟩ : ByteArray), .int .i64 0]) ?_ 0 _ rfl; (with_reducible repeat (first | refine blk_drewN ?_ _ | refine blk_drew ?_ | refine blk_alloc ?_ _)); exact BK197.out⟩
                      have n2_ : Aside0 (Below w.heap.size w (((w48.setCell ⟨gb197, 0, none⟩ (.string ((rd_T28 t193 a0).f0))).setCell ⟨gb197, 1, none⟩ (.string ((rd_T28 t193 a0).f1))).setCell ⟨gb197, 2, none⟩ (.int .i64 ((rd_T28 t193 a0).f2)))) := ⟨by repeat (first | (with_reducible first | exact HB.out | apply below_alloc | apply pw_below_drewN | apply below_drew1 | refine below_set ?_ GE197.out) | exact HB.out)⟩
                      (try clear HO195)
                      (try clear BK197)
                      (try clear HB)
                      generalize (((w48.setCell ⟨gb197, 0, none⟩ (.string ((rd_T28 t193 a0).f0))).setCell ⟨gb197, 1, none⟩ (.string ((rd_T28 t193 a0).f1))).setCell ⟨gb197, 2, none⟩ (.int .i64 ((rd_T28 t193 a0).f2))) = w50 at n0_ n1_ n2_ ⊢
                      have HO195 := n0_
                      have BK197 := n1_
                      have HB := n2_
                      clear n0_ n1_ n2_
                      have n0_ := Aside0.mk (Kd.R_drew HO195.out)
                      have n1_ := Aside0.mk (blk_drew BK197.out)
                      have n2_ := Aside0.mk (below_drew1 HB.out)
                      clear HO195
                      clear BK197
                      clear HB
                      have HO195 := n0_
                      have BK197 := n1_
                      have HB := n2_
                      clear n0_ n1_ n2_
                      refine start_ (n := 11) (S := fun w' => w'.cell? ⟨gb197, 0, none⟩ = some (.string ((rd_T28 t193 a0).f0)) ∧ w'.cell? ⟨gb197, 1, none⟩ = some (.string ((rd_T28 t193 a0).f1)) ∧ w'.cell? ⟨gb197, 2, none⟩ = some (.int .i64 ((rd_T28 t193 a0).f2))) (ds := []) #[false, false, false, false, false, false, false, false, false, false, false] (by kernel_rfl) rfl rfl ⟨(blk_cell BK197.out 0).trans rfl, (blk_cell BK197.out 1).trans rfl, (blk_cell BK197.out 2).trans rfl⟩ (fun hHeld => ?_); refine with_tabW spec_MadeNumber.tab13 spec_MadeNumber.bits13 (fun HT_ HW_ => ?_)
                      generalize w50.drew = w51 at HO195 BK197 HB hHeld ⊢
                      refine pure_ (i := 0) (N := some 47) (v := ?_) (a' := ?_) #[true, false, false, false, false, false, false, false, false, false, false] rfl rfl (any_of HT_.out (by kernel_rfl)) (fun _ _ _ h => h) (Or.inl ⟨by rfl, ?_⟩) ?_ ?_
                      rotate_left
                      · intro w'
                        go_simp
                        with_reducible rfl
                      rotate_left
                      · simp only [Act.put, List.setIfInBounds_toArray, List.set_cons_zero, List.set_cons_succ, i64_w, i32_w]
                        rfl
                      refine pure_ (i := 2) (N := some 49) (v := ?_) (a' := ?_) #[true, false, true, false, false, false, false, false, false, false, false] rfl rfl (any_of HT_.out (by kernel_rfl)) (fun _ _ _ h => h) (Or.inl ⟨by rfl, ?_⟩) ?_ ?_
                      rotate_left
                      · intro w'
                        go_simp
                        with_reducible rfl
                      rotate_left
                      · simp only [Act.put, List.setIfInBounds_toArray, List.set_cons_zero, List.set_cons_succ, i64_w, i32_w]
                        rfl
                      refine pure_ (i := 3) (N := some 50) (v := ?_) (a' := ?_) #[true, false, true, true, false, false, false, false, false, false, false] rfl rfl (any_of HT_.out (by kernel_rfl)) (fun _ _ _ h => h) (Or.inl ⟨by rfl, ?_⟩) ?_ ?_
                      rotate_left
                      · intro w'
                        go_simp
                        with_reducible rfl
                      rotate_left
                      · simp only [Act.put, List.setIfInBounds_toArray, List.set_cons_zero, List.set_cons_succ, i64_w, i32_w]
                        rfl
                      refine pure_ (i := 7) (N := some 54) (v := ?_) (a' := ?_) #[true, false, true, true, false, false, false, true, false, false, false] rfl rfl (any_of HT_.out (by kernel_rfl)) (fun _ _ _ h => h) (Or.inl ⟨by rfl, ?_⟩) ?_ ?_
                      rotate_left
                      · intro w'
                        go_simp
                        with_reducible rfl
                      rotate_left
                      · simp only [Act.put, List.setIfInBounds_toArray, List.set_cons_zero, List.set_cons_succ, i64_w, i32_w]
                        rfl
                      refine take_ (i := 1) (N := some 48) (v := ?_) (a' := ?_) #[true, true, true, true, false, false, false, true, false, false, false] rfl rfl (take_ofW HT_.out HW_.out (by kernel_rfl)) (fun _ _ _ h => h) (Or.inl ⟨by rfl, ?_⟩) hHeld ?_ ?_
                      rotate_left
                      · rintro w' ⟨s0, s1, s2⟩
                        go_simp
                        with_reducible rfl
                      rotate_left
                      · simp only [Act.put, List.setIfInBounds_toArray, List.set_cons_zero, List.set_cons_succ, i64_w, i32_w]
                        rfl
                      refine take_ (i := 4) (N := some 51) (v := ?_) (a' := ?_) #[true, true, true, true, true, false, false, true, false, false, false] rfl rfl (take_ofW HT_.out HW_.out (by kernel_rfl)) (fun _ _ _ h => h) (Or.inl ⟨by rfl, ?_⟩) hHeld ?_ ?_
                      rotate_left
                      · rintro w' ⟨s0, s1, s2⟩
                        go_simp
                        with_reducible rfl
                      rotate_left
                      · simp only [Act.put, List.setIfInBounds_toArray, List.set_cons_zero, List.set_cons_succ, i64_w, i32_w]
                        rfl
                      refine take_ (i := 8) (N := some 55) (v := ?_) (a' := ?_) #[true, true, true, true, true, false, false, true, true, false, false] rfl rfl (take_ofW HT_.out HW_.out (by kernel_rfl)) (fun _ _ _ h => h) (Or.inl ⟨by rfl, ?_⟩) hHeld ?_ ?_
                      rotate_left
                      · rintro w' ⟨s0, s1, s2⟩
                        go_simp
                        with_reducible rfl
                      rotate_left
                      · simp only [Act.put, List.setIfInBounds_toArray, List.set_cons_zero, List.set_cons_succ, i64_w, i32_w]
                        rfl
                      refine one_ (i := 5) (N := some 52) #[true, true, true, true, true, true, false, true, true, false, false] rfl rfl (one_of HT_.out (by kernel_rfl)) (by decide) (fun K hK => ?_)
                      refine goes_ Tryd.func72 (by kernel_rfl) rfl #[.int .i64 a1, .int .i64 ((rd_T28 t193 a0).f2)] (by rfl) rfl rfl (by (try simp only [List.map_toArray, List.map_cons, List.map_nil]); first | done | rfl | (simp only [List.length_drop, List.length_take]; rfl) | (simp [Act.eval, *]; done)) ?_
                      with_reducible refine (spec_madeAbove.calls kj18 a1 ((rd_T28 t193 a0).f2) t198 _ A43.out).mono ?_
                      rintro e w52 ⟨rfl, hb⟩
                      refine ⟨_, rfl, ?_⟩
                      have n0_ := Aside0.mk (Kd.R_below (by (with_reducible repeat (first | apply Kd.R_alloc | apply Kd.R_drewN | apply Kd.R_drew)); exact HO195.out) hb)
                      have n1_ := Aside0.mk (blk_below (g := gb197) (o := .cells #[.string ((rd_T28 t193 a0).f0), .string ((rd_T28 t193 a0).f1), .int .i64 ((rd_T28 t193 a0).f2)] 28 (0, 0)) (by (with_reducible repeat (first | refine blk_drewN ?_ _ | refine blk_drew ?_ | refine blk_alloc ?_ _)); exact BK197.out) hb)
                      have n2_ := Aside0.mk (below_step (by repeat (first | (with_reducible first | exact HB.out | apply below_alloc | apply pw_below_drewN | apply below_drew1 | refine below_set ?_ GE197.out) | exact HB.out)) hb)
                      clear HO195
                      clear BK197
                      clear HB
                      have HO195 := n0_
                      have BK197 := n1_
                      have HB := n2_
                      clear n0_ n1_ n2_
                      (try clear hb)
                      (try clear hb2)
                      (try clear hk)
                      (try clear hi)
                      refine hK.out _ _ ⟨(blk_cell BK197.out 0).trans rfl, (blk_cell BK197.out 1).trans rfl, (blk_cell BK197.out 2).trans rfl⟩ (fun hHeld => ?_)
                      clear hK K
                      refine norm_ (a' := ?_) ?_ ?_
                      rotate_left
                      · show Act.put _ (some 52) _ = _
                        simp only [Act.put, List.setIfInBounds_toArray, List.set_cons_zero, List.set_cons_succ, i64_w, i32_w]
                        rfl
                      refine pure_ (i := 6) (N := some 53) (v := ?_) (a' := ?_) #[true, true, true, true, true, true, true, true, true, false, false] rfl rfl (any_of HT_.out (by kernel_rfl)) (fun _ _ _ h => h) (Or.inl ⟨by rfl, ?_⟩) ?_ ?_
                      rotate_left
                      · intro w'
                        go_simp
                        with_reducible rfl
                      rotate_left
                      · simp only [Act.put, List.setIfInBounds_toArray, List.set_cons_zero, List.set_cons_succ, i64_w, i32_w]
                        rfl
                      refine pure_ (i := 9) (N := some 56) (v := ?_) (a' := ?_) #[true, true, true, true, true, true, true, true, true, true, false] rfl rfl (any_of HT_.out (by kernel_rfl)) (fun _ _ _ h => h) (Or.inl ⟨by rfl, ?_⟩) ?_ ?_
                      rotate_left
                      · intro w'
                        go_simp
                        with_reducible rfl
                      rotate_left
                      · simp only [Act.put, List.setIfInBounds_toArray, List.set_cons_zero, List.set_cons_succ, i64_w, i32_w]
                        rfl
                      refine pure_ (i := 10) (N := some 4) (v := ?_) (a' := ?_) #[true, true, true, true, true, true, true, true, true, true, true] rfl rfl (any_of HT_.out (by kernel_rfl)) (fun _ _ _ h => h) (Or.inl ⟨by rfl, ?_⟩) ?_ ?_
                      rotate_left
                      · intro w'
                        go_simp
                        with_reducible rfl
                      rotate_left
                      · simp only [Act.put, List.setIfInBounds_toArray, List.set_cons_zero, List.set_cons_succ, i64_w, i32_w]
                        rfl
                      refine done_ (done_of HT_.out (by kernel_rfl)) ?_
                      try go_wp2
                      go_ret
                      exact ⟨by first | rfl | (simp [errW_none, errW_some] <;> rfl) | (simp [*, errW_none, errW_some] <;> rfl), by repeat (first | (with_reducible first | exact HB.out | apply below_alloc | apply pw_below_drewN | apply below_drew1 | refine below_set ?_ GE197.out) | exact HB.out)⟩
                    · rw [if_neg c45] at H
                      exact absurd H (by simp)
                  · rw [if_neg c44] at H
                    exact absurd H (by simp)
                · rw [if_neg c42] at H
                  exact absurd H (by simp)
              · rw [if_neg c41] at H
                exact absurd H (by simp)

/-! ### laws_FnMakeNumber: function 3 -/
def laws_FnMakeNumber.j0 : Nat → Int → Int → Bool → Option (Bool)
  | 0, _, _, _ => none
  | k + 1, x0, x1, x10 => if x10 = true then ((laws_makeAwake.f k).bind fun t199 => (some t199)) else ((laws_makeAwake.f k).bind fun t200 => (if t200 = true then ((impl_MakeNumber.f k x0 x1).bind fun t201 => ((spec_MadeNumber.f k x0 x1).bind fun t202 => (some (t201.toList == t202.toList)))) else (some false)))
def laws_FnMakeNumber.f (k : Nat) (a0 : Int) (a1 : Int) : Option (Bool) := if a0 < 0 then (laws_FnMakeNumber.j0 k a0 a1 true) else (laws_FnMakeNumber.j0 k a0 a1 (decide (a0 ≥ 34)))
theorem laws_FnMakeNumber.mono_l : ∀ k, (∀ y0 y1 y2, LeO (laws_FnMakeNumber.j0 k y0 y1 y2) (laws_FnMakeNumber.j0 (k + 1) y0 y1 y2))
  | 0 => fun _ _ _ r h => by simp [laws_FnMakeNumber.j0] at h
  | k + 1 => by
    have ih0 := laws_FnMakeNumber.mono_l k
    · intro y0 y1 y2
      unfold laws_FnMakeNumber.j0
      repeat' first
      | (with_reducible exact ih0 _ _ _)
      | (with_reducible exact impl_MakeNumber.mono _ _ _)
      | (with_reducible exact laws_makeAwake.mono _)
      | (with_reducible exact spec_MadeNumber.mono _ _ _)
      | (with_reducible exact LeO.refl _)
      | (with_reducible exact LeO.none _)
      | (with_reducible refine LeO.ite ?_ ?_)
      | (with_reducible refine LeO.bind ?_ (fun _ => ?_))
      | exact ih0 _ _ _
      | exact impl_MakeNumber.mono _ _ _
      | exact laws_makeAwake.mono _
      | exact spec_MadeNumber.mono _ _ _
      | exact LeO.none _
      | refine LeO.ite ?_ ?_
      | refine LeO.bind ?_ (fun _ => ?_)
theorem laws_FnMakeNumber.mono : ∀ a0 a1 k, LeO (laws_FnMakeNumber.f k a0 a1) (laws_FnMakeNumber.f (k + 1) a0 a1) := by
  intro a0 a1 k
  have ih0 := laws_FnMakeNumber.mono_l k
  unfold laws_FnMakeNumber.f
  repeat' first
      | (with_reducible exact ih0 _ _ _)
      | (with_reducible exact impl_MakeNumber.mono _ _ _)
      | (with_reducible exact laws_makeAwake.mono _)
      | (with_reducible exact spec_MadeNumber.mono _ _ _)
      | (with_reducible exact LeO.refl _)
      | (with_reducible exact LeO.none _)
      | (with_reducible refine LeO.ite ?_ ?_)
      | (with_reducible refine LeO.bind ?_ (fun _ => ?_))
      | exact ih0 _ _ _
      | exact impl_MakeNumber.mono _ _ _
      | exact laws_makeAwake.mono _
      | exact spec_MadeNumber.mono _ _ _
      | exact LeO.none _
      | refine LeO.ite ?_ ?_
      | refine LeO.bind ?_ (fun _ => ?_)
set_option maxHeartbeats 8000000 in
set_option maxRecDepth 100000 in
theorem laws_FnMakeNumber.calls (k : Nat) (a0 : Int) (a1 : Int) (r : Bool) (w : World) (hLD : Laid w) (h : laws_FnMakeNumber.f k a0 a1 = some r) :
    Calls Tryd.prog 3 #[.int .i64 a0, .int .i64 a1] w fun e w' => e = .returned (.bool r) ∧ Below w.heap.size w w' := by
  have HLD := Aside0.mk hLD
  clear hLD
  have HB := Aside0.mk (Below.refl w.heap.size w)
  have H : (if a0 < 0 then (laws_FnMakeNumber.j0 k a0 a1 true) else (laws_FnMakeNumber.j0 k a0 a1 (decide (a0 ≥ 34)))) = some r := h
  clear h
  have HC3 := Aside0.mk H
  clear H
  go_enter Tryd.func3, Tryd.ntmps3
  go_upto_region 1 with (fail)
  go_cut [10] (fun v10 wc => ∃ (kq : Nat) (x10_2 : Bool), v10 = .bool x10_2 ∧ Aside0 (laws_FnMakeNumber.j0 kq a0 a1 x10_2 = some r) ∧ Aside0 (kq ≤ k) ∧ Aside0 (Below w.heap.size w wc))
  case first =>
    have H := HC3.out
    clear HC3
    by_cases c4 : a0 < 0
    · rw [if_pos c4] at H
      have c4b0 : decide (a0 < 0) = true := decide_eq_true c4
      clear c4
      (first | rw [c4b0] | (simp only [i64_w, i32_w]; rw [c4b0]) | skip)
      have H' := Aside0.mk H
      clear H
      go_wp2
      go_meet
      case rel => exact ⟨_, (true), (by first | rfl | (simp; done) | (simp [*]; done)), H', ⟨by first | omega | exact Nat.le_refl _⟩, ⟨by repeat (first | (with_reducible first | exact HB.out | apply below_alloc | apply pw_below_drewN | apply below_drew1) | exact HB.out)⟩⟩
    · rw [if_neg c4] at H
      have c4b0 : decide (a0 < 0) = false := decide_eq_false c4
      clear c4
      (first | rw [c4b0] | (simp only [i64_w, i32_w]; rw [c4b0]) | skip)
      have H' := Aside0.mk H
      clear H
      go_wp2
      go_meet
      case rel => exact ⟨_, (decide (a0 ≥ 34)), (by first | rfl | (simp; done) | (simp [*]; done)), H', ⟨by first | omega | exact Nat.le_refl _⟩, ⟨by repeat (first | (with_reducible first | exact HB.out | apply below_alloc | apply pw_below_drewN | apply below_drew1) | exact HB.out)⟩⟩
  case rest =>
    clear HC3
    try clear p2
    try clear c3
    try clear c4
    try clear c4b0
    obtain ⟨kq, x10_2, rfl, HA, HJ2, HB⟩ := hcut
    cases kq with
    | zero => exact absurd HA.out (by simp [laws_FnMakeNumber.j0])
    | succ kj2 =>
      have H := HA.out
      clear HA
      simp only [laws_FnMakeNumber.j0] at H
      by_cases c5 : x10_2 = true
      · subst c5
        have H1 : ((laws_makeAwake.f kj2).bind fun t199 => (some t199)) = some r := by rw [if_pos rfl] at H; exact H
        clear H
        have H := H1
        clear H1
        replace H := Option.bind_eq_some_iff.mp H
        obtain ⟨t199, A60, H⟩ := H
        replace H : (some t199) = some r := H
        have A6 := Aside0.mk A60
        clear A60
        obtain rfl := Option.some.inj H
        go_wp2_with (first | ((with_reducible refine gate_callee (f := 15) rfl ?_); refine goesL_ (some 11) rfl rfl Tryd.func15 (by kernel_rfl) rfl #[] rfl (by (try simp only [List.map_toArray, List.map_cons, List.map_nil]); first | done | rfl | (simp only [List.length_drop, List.length_take]; rfl) | (simp [Act.eval, *]; done)) ?_; (with_reducible refine (laws_makeAwake.calls kj2  t199 _ ?side1 A6.out).mono ?_); (case side1 => exact HLD.out.below (by repeat (first | (with_reducible first | exact HB.out | apply below_alloc | apply pw_below_drewN | apply below_drew1) | exact HB.out))); rintro e w7 ⟨rfl, hb⟩; refine ⟨_, rfl, ?_⟩; have n0_ := Aside0.mk (below_step (by repeat (first | (with_reducible first | exact HB.out | apply below_alloc | apply pw_below_drewN | apply below_drew1) | exact HB.out)) hb); clear HB; have HB := n0_; clear n0_; (try clear hb); (try clear hb2); (try clear hk); (try clear hi)))
        go_ret
        exact ⟨by first | rfl | (simp [errW_none, errW_some] <;> rfl) | (simp [*, errW_none, errW_some] <;> rfl), by repeat (first | (with_reducible first | exact HB.out | apply below_alloc | apply pw_below_drewN | apply below_drew1) | exact HB.out)⟩
      · replace c5 := Bool.eq_false_iff.mpr c5
        subst c5
        have H1 : ((laws_makeAwake.f kj2).bind fun t200 => (if t200 = true then ((impl_MakeNumber.f kj2 a0 a1).bind fun t201 => ((spec_MadeNumber.f kj2 a0 a1).bind fun t202 => (some (t201.toList == t202.toList)))) else (some false))) = some r := by rw [if_neg (show ¬ (false = true) by decide)] at H; exact H
        clear H
        have H := H1
        clear H1
        replace H := Option.bind_eq_some_iff.mp H
        obtain ⟨t200, A80, H⟩ := H
        replace H : (if t200 = true then ((impl_MakeNumber.f kj2 a0 a1).bind fun t201 => ((spec_MadeNumber.f kj2 a0 a1).bind fun t202 => (some (t201.toList == t202.toList)))) else (some false)) = some r := H
        have A8 := Aside0.mk A80
        clear A80
        by_cases c9 : t200 = true
        · subst c9
          have H1 : ((impl_MakeNumber.f kj2 a0 a1).bind fun t201 => ((spec_MadeNumber.f kj2 a0 a1).bind fun t202 => (some (t201.toList == t202.toList)))) = some r := by rw [if_pos rfl] at H; exact H
          clear H
          have H := H1
          clear H1
          replace H := Option.bind_eq_some_iff.mp H
          obtain ⟨t201, A100, H⟩ := H
          replace H : ((spec_MadeNumber.f kj2 a0 a1).bind fun t202 => (some (t201.toList == t202.toList))) = some r := H
          have A10 := Aside0.mk A100
          clear A100
          replace H := Option.bind_eq_some_iff.mp H
          obtain ⟨t202, A110, H⟩ := H
          replace H : (some (t201.toList == t202.toList)) = some r := H
          have A11 := Aside0.mk A110
          clear A110
          obtain rfl := Option.some.inj H
          go_wp2_with (first | ((with_reducible refine gate_callee (f := 15) rfl ?_); refine goesL_ (some 12) rfl rfl Tryd.func15 (by kernel_rfl) rfl #[] rfl (by (try simp only [List.map_toArray, List.map_cons, List.map_nil]); first | done | rfl | (simp only [List.length_drop, List.length_take]; rfl) | (simp [Act.eval, *]; done)) ?_; (with_reducible refine (laws_makeAwake.calls kj2  true _ ?side1 A8.out).mono ?_); (case side1 => exact HLD.out.below (by repeat (first | (with_reducible first | exact HB.out | apply below_alloc | apply pw_below_drewN | apply below_drew1) | exact HB.out))); rintro e w12 ⟨rfl, hb⟩; refine ⟨_, rfl, ?_⟩; have n0_ := Aside0.mk (below_step (by repeat (first | (with_reducible first | exact HB.out | apply below_alloc | apply pw_below_drewN | apply below_drew1) | exact HB.out)) hb); clear HB; have HB := n0_; clear n0_; (try clear hb); (try clear hb2); (try clear hk); (try clear hi)) | (go_at_call 16; (with_reducible refine (impl_MakeNumber.calls kj2 a0 a1 t201 _ ?side1 A10.out).mono ?_); (case side1 => exact HLD.out.below (by repeat (first | (with_reducible first | exact HB.out | apply below_alloc | apply pw_below_drewN | apply below_drew1) | exact HB.out))); rintro e w13 ⟨rfl, hb⟩; have n0_ := Aside0.mk (below_step (by repeat (first | (with_reducible first | exact HB.out | apply below_alloc | apply pw_below_drewN | apply below_drew1) | exact HB.out)) hb); clear HB; have HB := n0_; clear n0_; (try clear hb); (try clear hb2); (try clear hk); (try clear hi)) | (go_at_call 17; (with_reducible refine (spec_MadeNumber.calls kj2 a0 a1 t202 _ A11.out).mono ?_); rintro e w14 ⟨rfl, hb⟩; have n0_ := Aside0.mk (below_step (by repeat (first | (with_reducible first | exact HB.out | apply below_alloc | apply pw_below_drewN | apply below_drew1) | exact HB.out)) hb); clear HB; have HB := n0_; clear n0_; (try clear hb); (try clear hb2); (try clear hk); (try clear hi)))
          go_ret
          exact ⟨by first | rfl | (simp [errW_none, errW_some] <;> rfl) | (simp [*, errW_none, errW_some] <;> rfl), by repeat (first | (with_reducible first | exact HB.out | apply below_alloc | apply pw_below_drewN | apply below_drew1) | exact HB.out)⟩
        · replace c9 := Bool.eq_false_iff.mpr c9
          subst c9
          have H1 : (some false) = some r := by rw [if_neg (show ¬ (false = true) by decide)] at H; exact H
          clear H
          have H := H1
          clear H1
          obtain rfl := Option.some.inj H
          go_wp2_with (first | ((with_reducible refine gate_callee (f := 15) rfl ?_); refine goesL_ (some 12) rfl rfl Tryd.func15 (by kernel_rfl) rfl #[] rfl (by (try simp only [List.map_toArray, List.map_cons, List.map_nil]); first | done | rfl | (simp only [List.length_drop, List.length_take]; rfl) | (simp [Act.eval, *]; done)) ?_; (with_reducible refine (laws_makeAwake.calls kj2  false _ ?side1 A8.out).mono ?_); (case side1 => exact HLD.out.below (by repeat (first | (with_reducible first | exact HB.out | apply below_alloc | apply pw_below_drewN | apply below_drew1) | exact HB.out))); rintro e w15 ⟨rfl, hb⟩; refine ⟨_, rfl, ?_⟩; have n0_ := Aside0.mk (below_step (by repeat (first | (with_reducible first | exact HB.out | apply below_alloc | apply pw_below_drewN | apply below_drew1) | exact HB.out)) hb); clear HB; have HB := n0_; clear n0_; (try clear hb); (try clear hb2); (try clear hk); (try clear hi)))
          go_ret
          exact ⟨by first | rfl | (simp [errW_none, errW_some] <;> rfl) | (simp [*, errW_none, errW_some] <;> rfl), by repeat (first | (with_reducible first | exact HB.out | apply below_alloc | apply pw_below_drewN | apply below_drew1) | exact HB.out)⟩

/-- THE ONE PURE STATEMENT of laws_FnMakeNumber: yours. -/
def laws_FnMakeNumber.Pure : Prop := ∀ (a0 : Int) (a1 : Int), (Lit.int .i64 a0).wf = true → (Lit.int .i64 a1).wf = true → ∃ k, laws_FnMakeNumber.f k a0 a1 = some true
theorem laws_FnMakeNumber.walk (P : laws_FnMakeNumber.Pure) (a0 : Int) (a1 : Int) (w : World) (hLD : Laid w) (w0 : (Lit.int .i64 a0).wf = true) (w1 : (Lit.int .i64 a1).wf = true) :
    Calls Tryd.prog 3 #[.int .i64 a0, .int .i64 a1] w fun e w' => e = .returned (.bool true) ∧ Below w.heap.size w w' := by
  obtain ⟨k, h⟩ := P a0 a1 w0 w1
  refine (laws_FnMakeNumber.calls k a0 a1 true w hLD h).mono ?_
  rintro e w' ⟨rfl, hd⟩
  exact ⟨rfl, hd⟩

end Go.Proofs.YtplmmblofhhikaaDoor.PX
