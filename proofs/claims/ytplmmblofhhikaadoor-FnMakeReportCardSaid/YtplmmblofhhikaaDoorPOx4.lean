-- Written by wip/pp.py, a program of this session, out of the translation. Not trusted: Lean checks it.
import Derived.Test.YtplmmblofhhikaaDoorPOx0
import Derived.Test.YtplmmblofhhikaaDoorPOx2
namespace Go.Proofs.YtplmmblofhhikaaDoor.PO
open Go.RowKit Go.Proofs.YtplmmblofhhikaaDoor.Or Go.Proofs.YtplmmblofhhikaaDoorW.PrintWords Go.Proofs.YtplmmblofhhikaaDoorW.PrintLast Go.Proofs.YtplmmblofhhikaaDoorW.PrintMore
attribute [local go_sem] max2_int min2_int max_two min_two max_three min_three max_four min_four   -- for this text's walks alone
attribute [local go_sem] Go.Proofs.YtplmmblofhhikaaDoor.Ext.wrap64_mod256 Go.Proofs.YtplmmblofhhikaaDoor.Ext.wrap64_mod32 Go.Proofs.YtplmmblofhhikaaDoor.Ext.i64_mod256 Go.Proofs.YtplmmblofhhikaaDoor.Ext.i64_mod32 Go.Proofs.YtplmmblofhhikaaDoor.Ext.i64_u8 Go.Proofs.YtplmmblofhhikaaDoor.Ext.w64_u8 Go.Proofs.YtplmmblofhhikaaDoor.Ext.i64_u32 Go.Proofs.YtplmmblofhhikaaDoor.Ext.w64_u32 
set_option linter.unusedVariables false
set_option linter.unusedSimpArgs false

/-! ### spec_MadeReport: function 30 -/
def spec_MadeReport.f (k : Nat) (a0_0 : Bool) (a0_1 : Int) (a1 : Int) : Option (ByteArray) := if a1 > 4 then ((spec_Mode_mark.f a0_0 a0_1).bind fun t152 => (if 2 + t152.size ≤ 9223372036854775807 then ((spec_Digits.f k a0_1).bind fun t153 => (if 2 + t152.size + t153.size ≤ 9223372036854775807 then (if 2 + t152.size + t153.size + 1 ≤ 9223372036854775807 then ((spec_Digits.f k 0).bind fun t154 => (if 2 + t152.size + t153.size + 1 + t154.size ≤ 9223372036854775807 then (if 2 + t152.size + t153.size + 1 + t154.size + 2 ≤ 9223372036854775807 then (some ((((((⟨#[27, 91]⟩ : ByteArray) ++ t152) ++ t153) ++ (⟨#[59]⟩ : ByteArray)) ++ t154) ++ (⟨#[36, 121]⟩ : ByteArray))) else (none)) else (none))) else (none)) else (none))) else (none))) else ((spec_Mode_mark.f a0_0 a0_1).bind fun t155 => (if 2 + t155.size ≤ 9223372036854775807 then ((spec_Digits.f k a0_1).bind fun t156 => (if 2 + t155.size + t156.size ≤ 9223372036854775807 then (if 2 + t155.size + t156.size + 1 ≤ 9223372036854775807 then ((spec_Digits.f k (wrap64 (a1))).bind fun t157 => (if 2 + t155.size + t156.size + 1 + t157.size ≤ 9223372036854775807 then (if 2 + t155.size + t156.size + 1 + t157.size + 2 ≤ 9223372036854775807 then (some ((((((⟨#[27, 91]⟩ : ByteArray) ++ t155) ++ t156) ++ (⟨#[59]⟩ : ByteArray)) ++ t157) ++ (⟨#[36, 121]⟩ : ByteArray))) else (none)) else (none))) else (none)) else (none))) else (none)))
theorem spec_MadeReport.mono : ∀ a0 a1 a2 k, LeO (spec_MadeReport.f k a0 a1 a2) (spec_MadeReport.f (k + 1) a0 a1 a2) := by
  intro a0 a1 a2 k
  unfold spec_MadeReport.f
  repeat' first
      | (with_reducible exact spec_Digits.mono _ _)
      | (with_reducible exact LeO.refl _)
      | (with_reducible exact LeO.none _)
      | (with_reducible refine LeO.ite ?_ ?_)
      | (with_reducible refine LeO.bind ?_ (fun _ => ?_))
      | exact spec_Digits.mono _ _
      | exact LeO.none _
      | refine LeO.ite ?_ ?_
      | refine LeO.bind ?_ (fun _ => ?_)
def spec_MadeReport.T3 : Bool × List (List Nat × List Nat) := (true, [([], []), ([0], [0]), ([1], [1]), ([], []), ([3], [3]), ([4, 1], [4]), ([2, 5], [2, 5]), ([6], [6]), ([], []), ([8], [8]), ([9, 5], [9]), ([7, 10], [7, 10]), ([11], [11]), ([12, 10, 0, 1, 2, 3, 4, 5, 6, 7, 8, 9, 10, 11, 12], [12])])
def spec_MadeReport.B3 : List Nat := [0, 1, 3, 0, 8, 27, 63, 127, 0, 256, 827, 2047, 4095, 8191]
theorem spec_MadeReport.tab3 : rtab .any (opsOf Tryd.f30 3) = spec_MadeReport.T3 := by kernel_rfl
theorem spec_MadeReport.bits3 : waitsOk spec_MadeReport.T3.2 spec_MadeReport.B3 = true := by kernel_rfl
set_option maxHeartbeats 8000000 in
set_option maxRecDepth 100000 in
theorem spec_MadeReport.calls (k : Nat) (a0_0 : Bool) (a0_1 : Int) (a1 : Int) (r : ByteArray) (w : World) (h : spec_MadeReport.f k a0_0 a0_1 a1 = some r) :
    Calls Tryd.prog 30 #[.agg #[.bool a0_0, .int .i64 a0_1], .int .u8 a1] w fun e w' => e = .returned (.string r) ∧ Below w.heap.size w w' := by
  have hu55 := Tryd.underlying55
  have HB := Aside0.mk (Below.refl w.heap.size w)
  have H : (if a1 > 4 then ((spec_Mode_mark.f a0_0 a0_1).bind fun t152 => (if 2 + t152.size ≤ 9223372036854775807 then ((spec_Digits.f k a0_1).bind fun t153 => (if 2 + t152.size + t153.size ≤ 9223372036854775807 then (if 2 + t152.size + t153.size + 1 ≤ 9223372036854775807 then ((spec_Digits.f k 0).bind fun t154 => (if 2 + t152.size + t153.size + 1 + t154.size ≤ 9223372036854775807 then (if 2 + t152.size + t153.size + 1 + t154.size + 2 ≤ 9223372036854775807 then (some ((((((⟨#[27, 91]⟩ : ByteArray) ++ t152) ++ t153) ++ (⟨#[59]⟩ : ByteArray)) ++ t154) ++ (⟨#[36, 121]⟩ : ByteArray))) else (none)) else (none))) else (none)) else (none))) else (none))) else ((spec_Mode_mark.f a0_0 a0_1).bind fun t155 => (if 2 + t155.size ≤ 9223372036854775807 then ((spec_Digits.f k a0_1).bind fun t156 => (if 2 + t155.size + t156.size ≤ 9223372036854775807 then (if 2 + t155.size + t156.size + 1 ≤ 9223372036854775807 then ((spec_Digits.f k (wrap64 (a1))).bind fun t157 => (if 2 + t155.size + t156.size + 1 + t157.size ≤ 9223372036854775807 then (if 2 + t155.size + t156.size + 1 + t157.size + 2 ≤ 9223372036854775807 then (some ((((((⟨#[27, 91]⟩ : ByteArray) ++ t155) ++ t156) ++ (⟨#[59]⟩ : ByteArray)) ++ t157) ++ (⟨#[36, 121]⟩ : ByteArray))) else (none)) else (none))) else (none)) else (none))) else (none)))) = some r := h
  clear h
  by_cases c3 : a1 > 4
  · rw [if_pos c3] at H
    have c3b0 : decide (4 < a1) = true := decide_eq_true c3
    clear c3
    replace H := Option.bind_eq_some_iff.mp H
    obtain ⟨t152, A40, H⟩ := H
    replace H : (if 2 + t152.size ≤ 9223372036854775807 then ((spec_Digits.f k a0_1).bind fun t153 => (if 2 + t152.size + t153.size ≤ 9223372036854775807 then (if 2 + t152.size + t153.size + 1 ≤ 9223372036854775807 then ((spec_Digits.f k 0).bind fun t154 => (if 2 + t152.size + t153.size + 1 + t154.size ≤ 9223372036854775807 then (if 2 + t152.size + t153.size + 1 + t154.size + 2 ≤ 9223372036854775807 then (some ((((((⟨#[27, 91]⟩ : ByteArray) ++ t152) ++ t153) ++ (⟨#[59]⟩ : ByteArray)) ++ t154) ++ (⟨#[36, 121]⟩ : ByteArray))) else (none)) else (none))) else (none)) else (none))) else (none)) = some r := H
    have A4 := Aside0.mk A40
    clear A40
    by_cases c5 : 2 + t152.size ≤ 9223372036854775807
    · rw [if_pos c5] at H
      have c5b0 := eq_true c5
      have c5b1 : decide (2 + t152.size ≤ 9223372036854775807) = true := decide_eq_true c5
      try have c5b2 : (9223372036854775807 < 2 + t152.size) = False := eq_false (Nat.not_lt.2 c5)
      replace H := Option.bind_eq_some_iff.mp H
      obtain ⟨t153, A60, H⟩ := H
      replace H : (if 2 + t152.size + t153.size ≤ 9223372036854775807 then (if 2 + t152.size + t153.size + 1 ≤ 9223372036854775807 then ((spec_Digits.f k 0).bind fun t154 => (if 2 + t152.size + t153.size + 1 + t154.size ≤ 9223372036854775807 then (if 2 + t152.size + t153.size + 1 + t154.size + 2 ≤ 9223372036854775807 then (some ((((((⟨#[27, 91]⟩ : ByteArray) ++ t152) ++ t153) ++ (⟨#[59]⟩ : ByteArray)) ++ t154) ++ (⟨#[36, 121]⟩ : ByteArray))) else (none)) else (none))) else (none)) else (none)) = some r := H
      have A6 := Aside0.mk A60
      clear A60
      by_cases c7 : 2 + t152.size + t153.size ≤ 9223372036854775807
      · rw [if_pos c7] at H
        have c7b0 := eq_true c7
        have c7b1 : decide (2 + t152.size + t153.size ≤ 9223372036854775807) = true := decide_eq_true c7
        try have c7b2 : (9223372036854775807 < 2 + t152.size + t153.size) = False := eq_false (Nat.not_lt.2 c7)
        by_cases c8 : 2 + t152.size + t153.size + 1 ≤ 9223372036854775807
        · rw [if_pos c8] at H
          have c8b0 := eq_true c8
          have c8b1 : decide (2 + t152.size + t153.size + 1 ≤ 9223372036854775807) = true := decide_eq_true c8
          try have c8b2 : (9223372036854775807 < 2 + t152.size + t153.size + 1) = False := eq_false (Nat.not_lt.2 c8)
          replace H := Option.bind_eq_some_iff.mp H
          obtain ⟨t154, A90, H⟩ := H
          replace H : (if 2 + t152.size + t153.size + 1 + t154.size ≤ 9223372036854775807 then (if 2 + t152.size + t153.size + 1 + t154.size + 2 ≤ 9223372036854775807 then (some ((((((⟨#[27, 91]⟩ : ByteArray) ++ t152) ++ t153) ++ (⟨#[59]⟩ : ByteArray)) ++ t154) ++ (⟨#[36, 121]⟩ : ByteArray))) else (none)) else (none)) = some r := H
          have A9 := Aside0.mk A90
          clear A90
          by_cases c10 : 2 + t152.size + t153.size + 1 + t154.size ≤ 9223372036854775807
          · rw [if_pos c10] at H
            have c10b0 := eq_true c10
            have c10b1 : decide (2 + t152.size + t153.size + 1 + t154.size ≤ 9223372036854775807) = true := decide_eq_true c10
            try have c10b2 : (9223372036854775807 < 2 + t152.size + t153.size + 1 + t154.size) = False := eq_false (Nat.not_lt.2 c10)
            by_cases c11 : 2 + t152.size + t153.size + 1 + t154.size + 2 ≤ 9223372036854775807
            · rw [if_pos c11] at H
              have c11b0 := eq_true c11
              have c11b1 : decide (2 + t152.size + t153.size + 1 + t154.size + 2 ≤ 9223372036854775807) = true := decide_eq_true c11
              try have c11b2 : (9223372036854775807 < 2 + t152.size + t153.size + 1 + t154.size + 2) = False := eq_false (Nat.not_lt.2 c11)
              obtain rfl := Option.some.inj H
              go_enter Tryd.func30, Tryd.ntmps30
              try go_wp2_with (first | ((with_reducible refine gate_dst (N := 2) rfl ?_); refine box_event ?hg (N := 2) ?hd (cs := #[.bool a0_0, .int .i64 a0_1]) (t := 55) ?hr ?_; (case hd => rfl); (case hg => rfl); (case hr => first | (go_simp; done) | (go_simp; rfl)); intro gb151 hg w12 hbox hb; have n0_ := Aside0.mk (below_step (by repeat (first | (with_reducible first | exact HB.out | apply below_alloc | apply Go.Proofs.YtplmmblofhhikaaDoor.Ext.below_bytes | apply pw_below_drewN | apply below_drew1) | exact HB.out)) hb); have n1_ := Aside0.mk (hbox); have n2_ := Aside0.mk ((by rw [hg]; exact (below_size (by repeat (first | (with_reducible first | exact HB.out | apply below_alloc | apply Go.Proofs.YtplmmblofhhikaaDoor.Ext.below_bytes | apply pw_below_drewN | apply below_drew1) | exact HB.out))) : w.heap.size ≤ gb151)); have n3_ := Aside0.mk ((by rw [hg]; exact (below_size (by repeat (first | (with_reducible first | exact HB.out | apply below_alloc | apply Go.Proofs.YtplmmblofhhikaaDoor.Ext.below_bytes | apply pw_below_drewN | apply below_drew1) | exact HB.out))) : w.heap.size ≤ gb151)); clear HB; have HB := n0_; have BK151 := n1_; have GW151 := n2_; have GE151 := n3_; clear n0_ n1_ n2_ n3_; clear hb hbox hg))
              have n0_ := Aside0.mk (blk_drew BK151.out)
              have n1_ := Aside0.mk (below_drew1 HB.out)
              clear BK151
              clear HB
              have BK151 := n0_
              have HB := n1_
              clear n0_ n1_
              refine start_ (n := 14) (S := fun w' => w'.cell? ⟨gb151, 0, none⟩ = some (.bool a0_0) ∧ w'.cell? ⟨gb151, 1, none⟩ = some (.int .i64 a0_1)) (ds := []) #[false, false, false, false, false, false, false, false, false, false, false, false, false, false] (by kernel_rfl) rfl rfl ⟨(blk_cell BK151.out 0).trans rfl, (blk_cell BK151.out 1).trans rfl⟩ (fun hHeld => ?_); refine with_tabW spec_MadeReport.tab3 spec_MadeReport.bits3 (fun HT_ HW_ => ?_)
              generalize w12.drew = w13 at BK151 HB hHeld ⊢
              refine pure_ (i := 3) (N := some 10) (v := ?_) (a' := ?_) #[false, false, false, true, false, false, false, false, false, false, false, false, false, false] rfl rfl (any_of HT_.out (by kernel_rfl)) (fun _ _ _ h => h) (Or.inl ⟨by rfl, ?_⟩) ?_ ?_
              rotate_left
              · intro w'
                go_simp
                with_reducible rfl
              rotate_left
              · simp only [Act.put, List.setIfInBounds_toArray, List.set_cons_zero, List.set_cons_succ, i64_w, i32_w]
                rfl
              refine pure_ (i := 8) (N := some 15) (v := ?_) (a' := ?_) #[false, false, false, true, false, false, false, false, true, false, false, false, false, false] rfl rfl (any_of HT_.out (by kernel_rfl)) (fun _ _ _ h => h) (Or.inl ⟨by rfl, ?_⟩) ?_ ?_
              rotate_left
              · intro w'
                go_simp
                with_reducible rfl
              rotate_left
              · simp only [Act.put, List.setIfInBounds_toArray, List.set_cons_zero, List.set_cons_succ, i64_w, i32_w]
                rfl
              refine pure_ (i := 9) (N := some 16) (v := ?_) (a' := ?_) #[false, false, false, true, false, false, false, false, true, true, false, false, false, false] rfl rfl (any_of HT_.out (by kernel_rfl)) (fun _ _ _ h => h) (Or.inl ⟨by rfl, ?_⟩) ?_ ?_
              rotate_left
              · intro w'
                go_simp
                with_reducible rfl
              rotate_left
              · simp only [Act.put, List.setIfInBounds_toArray, List.set_cons_zero, List.set_cons_succ, i64_w, i32_w]
                rfl
              refine take_ (i := 0) (N := some 7) (v := ?_) (a' := ?_) #[true, false, false, true, false, false, false, false, true, true, false, false, false, false] rfl rfl (take_ofW HT_.out HW_.out (by kernel_rfl)) (fun _ _ _ h => h) (Or.inl ⟨by rfl, ?_⟩) hHeld ?_ ?_
              rotate_left
              · rintro w' ⟨s0, s1⟩
                go_simp
                with_reducible rfl
              rotate_left
              · simp only [Act.put, List.setIfInBounds_toArray, List.set_cons_zero, List.set_cons_succ, i64_w, i32_w]
                rfl
              refine take_ (i := 4) (N := some 11) (v := ?_) (a' := ?_) #[true, false, false, true, true, false, false, false, true, true, false, false, false, false] rfl rfl (take_ofW HT_.out HW_.out (by kernel_rfl)) (fun _ _ _ h => h) (Or.inl ⟨by rfl, ?_⟩) hHeld ?_ ?_
              rotate_left
              · rintro w' ⟨s0, s1⟩
                go_simp
                with_reducible rfl
              rotate_left
              · simp only [Act.put, List.setIfInBounds_toArray, List.set_cons_zero, List.set_cons_succ, i64_w, i32_w]
                rfl
              refine one_ (i := 1) (N := some 8) #[true, true, false, true, true, false, false, false, true, true, false, false, false, false] rfl rfl (one_of HT_.out (by kernel_rfl)) (by decide) (fun K hK => ?_)
              refine goes_ Tryd.func100 (by kernel_rfl) rfl #[.agg #[.bool a0_0, .int .i64 a0_1]] (by rfl) rfl rfl (by (try simp only [List.map_toArray, List.map_cons, List.map_nil]); first | done | rfl | (simp only [List.length_drop, List.length_take]; rfl) | (simp [Act.eval, *]; done) | (simp [Act.eval, *]; unfold wrap64; omega)) ?_
              with_reducible refine (spec_Mode_mark.calls a0_0 a0_1 t152 _ A4.out).mono ?_
              rintro e w14 ⟨rfl, hb⟩
              refine ⟨_, rfl, ?_⟩
              have n0_ := Aside0.mk (blk_below (g := gb151) (o := .cells #[.bool a0_0, .int .i64 a0_1] 55 (0, 0)) (by (with_reducible repeat (first | refine blk_drewN ?_ _ | refine blk_drew ?_ | refine blk_alloc ?_ _)); exact BK151.out) hb)
              have n1_ := Aside0.mk (below_step (by repeat (first | (with_reducible first | exact HB.out | apply below_alloc | apply Go.Proofs.YtplmmblofhhikaaDoor.Ext.below_bytes | apply pw_below_drewN | apply below_drew1 | refine below_set ?_ GE151.out) | exact HB.out)) hb)
              clear BK151
              clear HB
              have BK151 := n0_
              have HB := n1_
              clear n0_ n1_
              (try clear hb)
              (try clear hb2)
              (try clear hk)
              (try clear hi)
              refine hK.out _ _ ⟨(blk_cell BK151.out 0).trans rfl, (blk_cell BK151.out 1).trans rfl⟩ (fun hHeld => ?_)
              clear hK K
              refine norm_ (a' := ?_) ?_ ?_
              rotate_left
              · show Act.put _ (some 8) _ = _
                simp only [Act.put, List.setIfInBounds_toArray, List.set_cons_zero, List.set_cons_succ, i64_w, i32_w]
                rfl
              refine pure_ (i := 2) (N := some 9) (v := ?_) (a' := ?_) #[true, true, true, true, true, false, false, false, true, true, false, false, false, false] rfl rfl (any_of HT_.out (by kernel_rfl)) (fun _ _ _ h => h) (Or.inl ⟨by rfl, ?_⟩) ?_ ?_
              rotate_left
              · intro w'
                go_simp
                with_reducible rfl
              rotate_left
              · simp only [Act.put, List.setIfInBounds_toArray, List.set_cons_zero, List.set_cons_succ, i64_w, i32_w]
                rfl
              refine one_ (i := 5) (N := some 12) #[true, true, true, true, true, true, false, false, true, true, false, false, false, false] rfl rfl (one_of HT_.out (by kernel_rfl)) (by decide) (fun K hK => ?_)
              refine goes_ Tryd.func71 (by kernel_rfl) rfl #[.int .i64 a0_1] (by rfl) rfl rfl (by (try simp only [List.map_toArray, List.map_cons, List.map_nil]); first | done | rfl | (simp only [List.length_drop, List.length_take]; rfl) | (simp [Act.eval, *]; done) | (simp [Act.eval, *]; unfold wrap64; omega)) ?_
              with_reducible refine (spec_Digits.calls k a0_1 t153 _ A6.out).mono ?_
              rintro e w15 ⟨rfl, hb⟩
              refine ⟨_, rfl, ?_⟩
              have n0_ := Aside0.mk (blk_below (g := gb151) (o := .cells #[.bool a0_0, .int .i64 a0_1] 55 (0, 0)) (by (with_reducible repeat (first | refine blk_drewN ?_ _ | refine blk_drew ?_ | refine blk_alloc ?_ _)); exact BK151.out) hb)
              have n1_ := Aside0.mk (below_step (by repeat (first | (with_reducible first | exact HB.out | apply below_alloc | apply Go.Proofs.YtplmmblofhhikaaDoor.Ext.below_bytes | apply pw_below_drewN | apply below_drew1 | refine below_set ?_ GE151.out) | exact HB.out)) hb)
              clear BK151
              clear HB
              have BK151 := n0_
              have HB := n1_
              clear n0_ n1_
              (try clear hb)
              (try clear hb2)
              (try clear hk)
              (try clear hi)
              refine hK.out _ _ ⟨(blk_cell BK151.out 0).trans rfl, (blk_cell BK151.out 1).trans rfl⟩ (fun hHeld => ?_)
              clear hK K
              refine norm_ (a' := ?_) ?_ ?_
              rotate_left
              · show Act.put _ (some 12) _ = _
                simp only [Act.put, List.setIfInBounds_toArray, List.set_cons_zero, List.set_cons_succ, i64_w, i32_w]
                rfl
              refine pure_ (i := 6) (N := some 13) (v := ?_) (a' := ?_) #[true, true, true, true, true, true, true, false, true, true, false, false, false, false] rfl rfl (any_of HT_.out (by kernel_rfl)) (fun _ _ _ h => h) (Or.inl ⟨by rfl, ?_⟩) ?_ ?_
              rotate_left
              · intro w'
                go_simp
                with_reducible rfl
              rotate_left
              · simp only [Act.put, List.setIfInBounds_toArray, List.set_cons_zero, List.set_cons_succ, i64_w, i32_w]
                rfl
              refine pure_ (i := 7) (N := some 14) (v := ?_) (a' := ?_) #[true, true, true, true, true, true, true, true, true, true, false, false, false, false] rfl rfl (any_of HT_.out (by kernel_rfl)) (fun _ _ _ h => h) (Or.inl ⟨by rfl, ?_⟩) ?_ ?_
              rotate_left
              · intro w'
                go_simp
                with_reducible rfl
              rotate_left
              · simp only [Act.put, List.setIfInBounds_toArray, List.set_cons_zero, List.set_cons_succ, i64_w, i32_w]
                rfl
              refine one_ (i := 10) (N := some 17) #[true, true, true, true, true, true, true, true, true, true, true, false, false, false] rfl rfl (one_of HT_.out (by kernel_rfl)) (by decide) (fun K hK => ?_)
              refine goes_ Tryd.func71 (by kernel_rfl) rfl #[.int .i64 0] (by rfl) rfl rfl (by (try simp only [List.map_toArray, List.map_cons, List.map_nil]); first | done | rfl | (simp only [List.length_drop, List.length_take]; rfl) | (simp [Act.eval, *]; done) | (simp [Act.eval, *]; unfold wrap64; omega)) ?_
              with_reducible refine (spec_Digits.calls k 0 t154 _ A9.out).mono ?_
              rintro e w16 ⟨rfl, hb⟩
              refine ⟨_, rfl, ?_⟩
              have n0_ := Aside0.mk (blk_below (g := gb151) (o := .cells #[.bool a0_0, .int .i64 a0_1] 55 (0, 0)) (by (with_reducible repeat (first | refine blk_drewN ?_ _ | refine blk_drew ?_ | refine blk_alloc ?_ _)); exact BK151.out) hb)
              have n1_ := Aside0.mk (below_step (by repeat (first | (with_reducible first | exact HB.out | apply below_alloc | apply Go.Proofs.YtplmmblofhhikaaDoor.Ext.below_bytes | apply pw_below_drewN | apply below_drew1 | refine below_set ?_ GE151.out) | exact HB.out)) hb)
              clear BK151
              clear HB
              have BK151 := n0_
              have HB := n1_
              clear n0_ n1_
              (try clear hb)
              (try clear hb2)
              (try clear hk)
              (try clear hi)
              refine hK.out _ _ ⟨(blk_cell BK151.out 0).trans rfl, (blk_cell BK151.out 1).trans rfl⟩ (fun hHeld => ?_)
              clear hK K
              refine norm_ (a' := ?_) ?_ ?_
              rotate_left
              · show Act.put _ (some 17) _ = _
                simp only [Act.put, List.setIfInBounds_toArray, List.set_cons_zero, List.set_cons_succ, i64_w, i32_w]
                rfl
              refine pure_ (i := 11) (N := some 18) (v := ?_) (a' := ?_) #[true, true, true, true, true, true, true, true, true, true, true, true, false, false] rfl rfl (any_of HT_.out (by kernel_rfl)) (fun _ _ _ h => h) (Or.inl ⟨by rfl, ?_⟩) ?_ ?_
              rotate_left
              · intro w'
                go_simp
                with_reducible rfl
              rotate_left
              · simp only [Act.put, List.setIfInBounds_toArray, List.set_cons_zero, List.set_cons_succ, i64_w, i32_w]
                rfl
              refine pure_ (i := 12) (N := some 19) (v := ?_) (a' := ?_) #[true, true, true, true, true, true, true, true, true, true, true, true, true, false] rfl rfl (any_of HT_.out (by kernel_rfl)) (fun _ _ _ h => h) (Or.inl ⟨by rfl, ?_⟩) ?_ ?_
              rotate_left
              · intro w'
                go_simp
                with_reducible rfl
              rotate_left
              · simp only [Act.put, List.setIfInBounds_toArray, List.set_cons_zero, List.set_cons_succ, i64_w, i32_w]
                rfl
              refine pure_ (i := 13) (N := some 4) (v := ?_) (a' := ?_) #[true, true, true, true, true, true, true, true, true, true, true, true, true, true] rfl rfl (any_of HT_.out (by kernel_rfl)) (fun _ _ _ h => h) (Or.inl ⟨by rfl, ?_⟩) ?_ ?_
              rotate_left
              · intro w'
                go_simp
                with_reducible rfl
              rotate_left
              · simp only [Act.put, List.setIfInBounds_toArray, List.set_cons_zero, List.set_cons_succ, i64_w, i32_w]
                rfl
              refine done_ (done_of HT_.out (by kernel_rfl)) ?_
              try go_wp2
              go_ret
              exact ⟨by first | rfl | (simp [errW_none, errW_some] <;> rfl) | (simp [*, errW_none, errW_some] <;> rfl), by repeat (first | (with_reducible first | exact HB.out | apply below_alloc | apply Go.Proofs.YtplmmblofhhikaaDoor.Ext.below_bytes | apply pw_below_drewN | apply below_drew1 | refine below_set ?_ GE151.out) | exact HB.out)⟩
            · rw [if_neg c11] at H
              exact absurd H (by simp)
          · rw [if_neg c10] at H
            exact absurd H (by simp)
        · rw [if_neg c8] at H
          exact absurd H (by simp)
      · rw [if_neg c7] at H
        exact absurd H (by simp)
    · rw [if_neg c5] at H
      exact absurd H (by simp)
  · rw [if_neg c3] at H
    have c3b0 : decide (4 < a1) = false := decide_eq_false c3
    clear c3
    replace H := Option.bind_eq_some_iff.mp H
    obtain ⟨t155, A170, H⟩ := H
    replace H : (if 2 + t155.size ≤ 9223372036854775807 then ((spec_Digits.f k a0_1).bind fun t156 => (if 2 + t155.size + t156.size ≤ 9223372036854775807 then (if 2 + t155.size + t156.size + 1 ≤ 9223372036854775807 then ((spec_Digits.f k (wrap64 (a1))).bind fun t157 => (if 2 + t155.size + t156.size + 1 + t157.size ≤ 9223372036854775807 then (if 2 + t155.size + t156.size + 1 + t157.size + 2 ≤ 9223372036854775807 then (some ((((((⟨#[27, 91]⟩ : ByteArray) ++ t155) ++ t156) ++ (⟨#[59]⟩ : ByteArray)) ++ t157) ++ (⟨#[36, 121]⟩ : ByteArray))) else (none)) else (none))) else (none)) else (none))) else (none)) = some r := H
    have A17 := Aside0.mk A170
    clear A170
    by_cases c18 : 2 + t155.size ≤ 9223372036854775807
    · rw [if_pos c18] at H
      have c18b0 := eq_true c18
      have c18b1 : decide (2 + t155.size ≤ 9223372036854775807) = true := decide_eq_true c18
      try have c18b2 : (9223372036854775807 < 2 + t155.size) = False := eq_false (Nat.not_lt.2 c18)
      replace H := Option.bind_eq_some_iff.mp H
      obtain ⟨t156, A190, H⟩ := H
      replace H : (if 2 + t155.size + t156.size ≤ 9223372036854775807 then (if 2 + t155.size + t156.size + 1 ≤ 9223372036854775807 then ((spec_Digits.f k (wrap64 (a1))).bind fun t157 => (if 2 + t155.size + t156.size + 1 + t157.size ≤ 9223372036854775807 then (if 2 + t155.size + t156.size + 1 + t157.size + 2 ≤ 9223372036854775807 then (some ((((((⟨#[27, 91]⟩ : ByteArray) ++ t155) ++ t156) ++ (⟨#[59]⟩ : ByteArray)) ++ t157) ++ (⟨#[36, 121]⟩ : ByteArray))) else (none)) else (none))) else (none)) else (none)) = some r := H
      have A19 := Aside0.mk A190
      clear A190
      by_cases c20 : 2 + t155.size + t156.size ≤ 9223372036854775807
      · rw [if_pos c20] at H
        have c20b0 := eq_true c20
        have c20b1 : decide (2 + t155.size + t156.size ≤ 9223372036854775807) = true := decide_eq_true c20
        try have c20b2 : (9223372036854775807 < 2 + t155.size + t156.size) = False := eq_false (Nat.not_lt.2 c20)
        by_cases c21 : 2 + t155.size + t156.size + 1 ≤ 9223372036854775807
        · rw [if_pos c21] at H
          have c21b0 := eq_true c21
          have c21b1 : decide (2 + t155.size + t156.size + 1 ≤ 9223372036854775807) = true := decide_eq_true c21
          try have c21b2 : (9223372036854775807 < 2 + t155.size + t156.size + 1) = False := eq_false (Nat.not_lt.2 c21)
          replace H := Option.bind_eq_some_iff.mp H
          obtain ⟨t157, A220, H⟩ := H
          replace H : (if 2 + t155.size + t156.size + 1 + t157.size ≤ 9223372036854775807 then (if 2 + t155.size + t156.size + 1 + t157.size + 2 ≤ 9223372036854775807 then (some ((((((⟨#[27, 91]⟩ : ByteArray) ++ t155) ++ t156) ++ (⟨#[59]⟩ : ByteArray)) ++ t157) ++ (⟨#[36, 121]⟩ : ByteArray))) else (none)) else (none)) = some r := H
          have A22 := Aside0.mk A220
          clear A220
          by_cases c23 : 2 + t155.size + t156.size + 1 + t157.size ≤ 9223372036854775807
          · rw [if_pos c23] at H
            have c23b0 := eq_true c23
            have c23b1 : decide (2 + t155.size + t156.size + 1 + t157.size ≤ 9223372036854775807) = true := decide_eq_true c23
            try have c23b2 : (9223372036854775807 < 2 + t155.size + t156.size + 1 + t157.size) = False := eq_false (Nat.not_lt.2 c23)
            by_cases c24 : 2 + t155.size + t156.size + 1 + t157.size + 2 ≤ 9223372036854775807
            · rw [if_pos c24] at H
              have c24b0 := eq_true c24
              have c24b1 : decide (2 + t155.size + t156.size + 1 + t157.size + 2 ≤ 9223372036854775807) = true := decide_eq_true c24
              try have c24b2 : (9223372036854775807 < 2 + t155.size + t156.size + 1 + t157.size + 2) = False := eq_false (Nat.not_lt.2 c24)
              obtain rfl := Option.some.inj H
              go_enter Tryd.func30, Tryd.ntmps30
              try go_wp2_with (first | ((with_reducible refine gate_dst (N := 2) rfl ?_); refine box_event ?hg (N := 2) ?hd (cs := #[.bool a0_0, .int .i64 a0_1]) (t := 55) ?hr ?_; (case hd => rfl); (case hg => rfl); (case hr => first | (go_simp; done) | (go_simp; rfl)); intro gb151 hg w25 hbox hb; have n0_ := Aside0.mk (below_step (by repeat (first | (with_reducible first | exact HB.out | apply below_alloc | apply Go.Proofs.YtplmmblofhhikaaDoor.Ext.below_bytes | apply pw_below_drewN | apply below_drew1) | exact HB.out)) hb); have n1_ := Aside0.mk (hbox); have n2_ := Aside0.mk ((by rw [hg]; exact (below_size (by repeat (first | (with_reducible first | exact HB.out | apply below_alloc | apply Go.Proofs.YtplmmblofhhikaaDoor.Ext.below_bytes | apply pw_below_drewN | apply below_drew1) | exact HB.out))) : w.heap.size ≤ gb151)); have n3_ := Aside0.mk ((by rw [hg]; exact (below_size (by repeat (first | (with_reducible first | exact HB.out | apply below_alloc | apply Go.Proofs.YtplmmblofhhikaaDoor.Ext.below_bytes | apply pw_below_drewN | apply below_drew1) | exact HB.out))) : w.heap.size ≤ gb151)); clear HB; have HB := n0_; have BK151 := n1_; have GW151 := n2_; have GE151 := n3_; clear n0_ n1_ n2_ n3_; clear hb hbox hg))
              have n0_ := Aside0.mk (blk_drew BK151.out)
              have n1_ := Aside0.mk (below_drew1 HB.out)
              clear BK151
              clear HB
              have BK151 := n0_
              have HB := n1_
              clear n0_ n1_
              refine start_ (n := 14) (S := fun w' => w'.cell? ⟨gb151, 0, none⟩ = some (.bool a0_0) ∧ w'.cell? ⟨gb151, 1, none⟩ = some (.int .i64 a0_1)) (ds := []) #[false, false, false, false, false, false, false, false, false, false, false, false, false, false] (by kernel_rfl) rfl rfl ⟨(blk_cell BK151.out 0).trans rfl, (blk_cell BK151.out 1).trans rfl⟩ (fun hHeld => ?_); refine with_tabW spec_MadeReport.tab3 spec_MadeReport.bits3 (fun HT_ HW_ => ?_)
              generalize w25.drew = w26 at BK151 HB hHeld ⊢
              refine pure_ (i := 3) (N := some 10) (v := ?_) (a' := ?_) #[false, false, false, true, false, false, false, false, false, false, false, false, false, false] rfl rfl (any_of HT_.out (by kernel_rfl)) (fun _ _ _ h => h) (Or.inl ⟨by rfl, ?_⟩) ?_ ?_
              rotate_left
              · intro w'
                go_simp
                with_reducible rfl
              rotate_left
              · simp only [Act.put, List.setIfInBounds_toArray, List.set_cons_zero, List.set_cons_succ, i64_w, i32_w]
                rfl
              refine pure_ (i := 8) (N := some 15) (v := ?_) (a' := ?_) #[false, false, false, true, false, false, false, false, true, false, false, false, false, false] rfl rfl (any_of HT_.out (by kernel_rfl)) (fun _ _ _ h => h) (Or.inl ⟨by rfl, ?_⟩) ?_ ?_
              rotate_left
              · intro w'
                go_simp
                with_reducible rfl
              rotate_left
              · simp only [Act.put, List.setIfInBounds_toArray, List.set_cons_zero, List.set_cons_succ, i64_w, i32_w]
                rfl
              refine pure_ (i := 9) (N := some 16) (v := ?_) (a' := ?_) #[false, false, false, true, false, false, false, false, true, true, false, false, false, false] rfl rfl (any_of HT_.out (by kernel_rfl)) (fun _ _ _ h => h) (Or.inl ⟨by rfl, ?_⟩) ?_ ?_
              rotate_left
              · intro w'
                go_simp
                with_reducible rfl
              rotate_left
              · simp only [Act.put, List.setIfInBounds_toArray, List.set_cons_zero, List.set_cons_succ, i64_w, i32_w]
                rfl
              refine take_ (i := 0) (N := some 7) (v := ?_) (a' := ?_) #[true, false, false, true, false, false, false, false, true, true, false, false, false, false] rfl rfl (take_ofW HT_.out HW_.out (by kernel_rfl)) (fun _ _ _ h => h) (Or.inl ⟨by rfl, ?_⟩) hHeld ?_ ?_
              rotate_left
              · rintro w' ⟨s0, s1⟩
                go_simp
                with_reducible rfl
              rotate_left
              · simp only [Act.put, List.setIfInBounds_toArray, List.set_cons_zero, List.set_cons_succ, i64_w, i32_w]
                rfl
              refine take_ (i := 4) (N := some 11) (v := ?_) (a' := ?_) #[true, false, false, true, true, false, false, false, true, true, false, false, false, false] rfl rfl (take_ofW HT_.out HW_.out (by kernel_rfl)) (fun _ _ _ h => h) (Or.inl ⟨by rfl, ?_⟩) hHeld ?_ ?_
              rotate_left
              · rintro w' ⟨s0, s1⟩
                go_simp
                with_reducible rfl
              rotate_left
              · simp only [Act.put, List.setIfInBounds_toArray, List.set_cons_zero, List.set_cons_succ, i64_w, i32_w]
                rfl
              refine one_ (i := 1) (N := some 8) #[true, true, false, true, true, false, false, false, true, true, false, false, false, false] rfl rfl (one_of HT_.out (by kernel_rfl)) (by decide) (fun K hK => ?_)
              refine goes_ Tryd.func100 (by kernel_rfl) rfl #[.agg #[.bool a0_0, .int .i64 a0_1]] (by rfl) rfl rfl (by (try simp only [List.map_toArray, List.map_cons, List.map_nil]); first | done | rfl | (simp only [List.length_drop, List.length_take]; rfl) | (simp [Act.eval, *]; done) | (simp [Act.eval, *]; unfold wrap64; omega)) ?_
              with_reducible refine (spec_Mode_mark.calls a0_0 a0_1 t155 _ A17.out).mono ?_
              rintro e w27 ⟨rfl, hb⟩
              refine ⟨_, rfl, ?_⟩
              have n0_ := Aside0.mk (blk_below (g := gb151) (o := .cells #[.bool a0_0, .int .i64 a0_1] 55 (0, 0)) (by (with_reducible repeat (first | refine blk_drewN ?_ _ | refine blk_drew ?_ | refine blk_alloc ?_ _)); exact BK151.out) hb)
              have n1_ := Aside0.mk (below_step (by repeat (first | (with_reducible first | exact HB.out | apply below_alloc | apply Go.Proofs.YtplmmblofhhikaaDoor.Ext.below_bytes | apply pw_below_drewN | apply below_drew1 | refine below_set ?_ GE151.out) | exact HB.out)) hb)
              clear BK151
              clear HB
              have BK151 := n0_
              have HB := n1_
              clear n0_ n1_
              (try clear hb)
              (try clear hb2)
              (try clear hk)
              (try clear hi)
              refine hK.out _ _ ⟨(blk_cell BK151.out 0).trans rfl, (blk_cell BK151.out 1).trans rfl⟩ (fun hHeld => ?_)
              clear hK K
              refine norm_ (a' := ?_) ?_ ?_
              rotate_left
              · show Act.put _ (some 8) _ = _
                simp only [Act.put, List.setIfInBounds_toArray, List.set_cons_zero, List.set_cons_succ, i64_w, i32_w]
                rfl
              refine pure_ (i := 2) (N := some 9) (v := ?_) (a' := ?_) #[true, true, true, true, true, false, false, false, true, true, false, false, false, false] rfl rfl (any_of HT_.out (by kernel_rfl)) (fun _ _ _ h => h) (Or.inl ⟨by rfl, ?_⟩) ?_ ?_
              rotate_left
              · intro w'
                go_simp
                with_reducible rfl
              rotate_left
              · simp only [Act.put, List.setIfInBounds_toArray, List.set_cons_zero, List.set_cons_succ, i64_w, i32_w]
                rfl
              refine one_ (i := 5) (N := some 12) #[true, true, true, true, true, true, false, false, true, true, false, false, false, false] rfl rfl (one_of HT_.out (by kernel_rfl)) (by decide) (fun K hK => ?_)
              refine goes_ Tryd.func71 (by kernel_rfl) rfl #[.int .i64 a0_1] (by rfl) rfl rfl (by (try simp only [List.map_toArray, List.map_cons, List.map_nil]); first | done | rfl | (simp only [List.length_drop, List.length_take]; rfl) | (simp [Act.eval, *]; done) | (simp [Act.eval, *]; unfold wrap64; omega)) ?_
              with_reducible refine (spec_Digits.calls k a0_1 t156 _ A19.out).mono ?_
              rintro e w28 ⟨rfl, hb⟩
              refine ⟨_, rfl, ?_⟩
              have n0_ := Aside0.mk (blk_below (g := gb151) (o := .cells #[.bool a0_0, .int .i64 a0_1] 55 (0, 0)) (by (with_reducible repeat (first | refine blk_drewN ?_ _ | refine blk_drew ?_ | refine blk_alloc ?_ _)); exact BK151.out) hb)
              have n1_ := Aside0.mk (below_step (by repeat (first | (with_reducible first | exact HB.out | apply below_alloc | apply Go.Proofs.YtplmmblofhhikaaDoor.Ext.below_bytes | apply pw_below_drewN | apply below_drew1 | refine below_set ?_ GE151.out) | exact HB.out)) hb)
              clear BK151
              clear HB
              have BK151 := n0_
              have HB := n1_
              clear n0_ n1_
              (try clear hb)
              (try clear hb2)
              (try clear hk)
              (try clear hi)
              refine hK.out _ _ ⟨(blk_cell BK151.out 0).trans rfl, (blk_cell BK151.out 1).trans rfl⟩ (fun hHeld => ?_)
              clear hK K
              refine norm_ (a' := ?_) ?_ ?_
              rotate_left
              · show Act.put _ (some 12) _ = _
                simp only [Act.put, List.setIfInBounds_toArray, List.set_cons_zero, List.set_cons_succ, i64_w, i32_w]
                rfl
              refine pure_ (i := 6) (N := some 13) (v := ?_) (a' := ?_) #[true, true, true, true, true, true, true, false, true, true, false, false, false, false] rfl rfl (any_of HT_.out (by kernel_rfl)) (fun _ _ _ h => h) (Or.inl ⟨by rfl, ?_⟩) ?_ ?_
              rotate_left
              · intro w'
                go_simp
                with_reducible rfl
              rotate_left
              · simp only [Act.put, List.setIfInBounds_toArray, List.set_cons_zero, List.set_cons_succ, i64_w, i32_w]
                rfl
              refine pure_ (i := 7) (N := some 14) (v := ?_) (a' := ?_) #[true, true, true, true, true, true, true, true, true, true, false, false, false, false] rfl rfl (any_of HT_.out (by kernel_rfl)) (fun _ _ _ h => h) (Or.inl ⟨by rfl, ?_⟩) ?_ ?_
              rotate_left
              · intro w'
                go_simp
                with_reducible rfl
              rotate_left
              · simp only [Act.put, List.setIfInBounds_toArray, List.set_cons_zero, List.set_cons_succ, i64_w, i32_w]
                rfl
              refine one_ (i := 10) (N := some 17) #[true, true, true, true, true, true, true, true, true, true, true, false, false, false] rfl rfl (one_of HT_.out (by kernel_rfl)) (by decide) (fun K hK => ?_)
              refine goes_ Tryd.func71 (by kernel_rfl) rfl #[.int .i64 (wrap64 (a1))] (by rfl) rfl rfl (by (try simp only [List.map_toArray, List.map_cons, List.map_nil]); first | done | rfl | (simp only [List.length_drop, List.length_take]; rfl) | (simp [Act.eval, *]; done) | (simp [Act.eval, *]; unfold wrap64; omega)) ?_
              with_reducible refine (spec_Digits.calls k (wrap64 (a1)) t157 _ A22.out).mono ?_
              rintro e w29 ⟨rfl, hb⟩
              refine ⟨_, rfl, ?_⟩
              have n0_ := Aside0.mk (blk_below (g := gb151) (o := .cells #[.bool a0_0, .int .i64 a0_1] 55 (0, 0)) (by (with_reducible repeat (first | refine blk_drewN ?_ _ | refine blk_drew ?_ | refine blk_alloc ?_ _)); exact BK151.out) hb)
              have n1_ := Aside0.mk (below_step (by repeat (first | (with_reducible first | exact HB.out | apply below_alloc | apply Go.Proofs.YtplmmblofhhikaaDoor.Ext.below_bytes | apply pw_below_drewN | apply below_drew1 | refine below_set ?_ GE151.out) | exact HB.out)) hb)
              clear BK151
              clear HB
              have BK151 := n0_
              have HB := n1_
              clear n0_ n1_
              (try clear hb)
              (try clear hb2)
              (try clear hk)
              (try clear hi)
              refine hK.out _ _ ⟨(blk_cell BK151.out 0).trans rfl, (blk_cell BK151.out 1).trans rfl⟩ (fun hHeld => ?_)
              clear hK K
              refine norm_ (a' := ?_) ?_ ?_
              rotate_left
              · show Act.put _ (some 17) _ = _
                simp only [Act.put, List.setIfInBounds_toArray, List.set_cons_zero, List.set_cons_succ, i64_w, i32_w]
                rfl
              refine pure_ (i := 11) (N := some 18) (v := ?_) (a' := ?_) #[true, true, true, true, true, true, true, true, true, true, true, true, false, false] rfl rfl (any_of HT_.out (by kernel_rfl)) (fun _ _ _ h => h) (Or.inl ⟨by rfl, ?_⟩) ?_ ?_
              rotate_left
              · intro w'
                go_simp
                with_reducible rfl
              rotate_left
              · simp only [Act.put, List.setIfInBounds_toArray, List.set_cons_zero, List.set_cons_succ, i64_w, i32_w]
                rfl
              refine pure_ (i := 12) (N := some 19) (v := ?_) (a' := ?_) #[true, true, true, true, true, true, true, true, true, true, true, true, true, false] rfl rfl (any_of HT_.out (by kernel_rfl)) (fun _ _ _ h => h) (Or.inl ⟨by rfl, ?_⟩) ?_ ?_
              rotate_left
              · intro w'
                go_simp
                with_reducible rfl
              rotate_left
              · simp only [Act.put, List.setIfInBounds_toArray, List.set_cons_zero, List.set_cons_succ, i64_w, i32_w]
                rfl
              refine pure_ (i := 13) (N := some 4) (v := ?_) (a' := ?_) #[true, true, true, true, true, true, true, true, true, true, true, true, true, true] rfl rfl (any_of HT_.out (by kernel_rfl)) (fun _ _ _ h => h) (Or.inl ⟨by rfl, ?_⟩) ?_ ?_
              rotate_left
              · intro w'
                go_simp
                with_reducible rfl
              rotate_left
              · simp only [Act.put, List.setIfInBounds_toArray, List.set_cons_zero, List.set_cons_succ, i64_w, i32_w]
                rfl
              refine done_ (done_of HT_.out (by kernel_rfl)) ?_
              try go_wp2
              go_ret
              exact ⟨by first | rfl | (simp [errW_none, errW_some] <;> rfl) | (simp [*, errW_none, errW_some] <;> rfl), by repeat (first | (with_reducible first | exact HB.out | apply below_alloc | apply Go.Proofs.YtplmmblofhhikaaDoor.Ext.below_bytes | apply pw_below_drewN | apply below_drew1 | refine below_set ?_ GE151.out) | exact HB.out)⟩
            · rw [if_neg c24] at H
              exact absurd H (by simp)
          · rw [if_neg c23] at H
            exact absurd H (by simp)
        · rw [if_neg c21] at H
          exact absurd H (by simp)
      · rw [if_neg c20] at H
        exact absurd H (by simp)
    · rw [if_neg c18] at H
      exact absurd H (by simp)

/-! ### laws_FnMakeReport: function 11 -/
def laws_FnMakeReport.f (k : Nat) (a0_0 : Bool) (a0_1 : Int) (a1 : Int) : Option (Bool) := (laws_makeAwake.f).bind fun t159 => (if t159 = true then ((impl_MakeReport.f a0_0 a0_1 a1).bind fun t160 => ((spec_MadeReport.f k a0_0 a0_1 a1).bind fun t161 => (some (t160.toList == t161.toList)))) else (some false))
theorem laws_FnMakeReport.mono : ∀ a0 a1 a2 k, LeO (laws_FnMakeReport.f k a0 a1 a2) (laws_FnMakeReport.f (k + 1) a0 a1 a2) := by
  intro a0 a1 a2 k
  unfold laws_FnMakeReport.f
  repeat' first
      | (with_reducible exact spec_MadeReport.mono _ _ _ _)
      | (with_reducible exact LeO.refl _)
      | (with_reducible exact LeO.none _)
      | (with_reducible refine LeO.ite ?_ ?_)
      | (with_reducible refine LeO.bind ?_ (fun _ => ?_))
      | exact spec_MadeReport.mono _ _ _ _
      | exact LeO.none _
      | refine LeO.ite ?_ ?_
      | refine LeO.bind ?_ (fun _ => ?_)
def laws_FnMakeReport.T1 : Bool × List (List Nat × List Nat) := (true, [([], []), ([0, 0], [0]), ([1], [1]), ([1], [1]), ([2, 3, 1, 1], [1, 2, 3]), ([1], [1]), ([1], [1]), ([5, 6, 4, 1], [1, 5, 6]), ([4, 7, 1], [1, 4, 7]), ([1, 8], [1, 8]), ([9, 7, 0, 1, 2, 3, 4, 5, 6, 7, 8, 9], [9])])
def laws_FnMakeReport.B1 : List Nat := [0, 1, 3, 3, 15, 3, 3, 127, 255, 511, 1023]
theorem laws_FnMakeReport.tab1 : rtab .any (opsOf Tryd.f11 1) = laws_FnMakeReport.T1 := by kernel_rfl
theorem laws_FnMakeReport.bits1 : waitsOk laws_FnMakeReport.T1.2 laws_FnMakeReport.B1 = true := by kernel_rfl
set_option maxHeartbeats 8000000 in
set_option maxRecDepth 100000 in
theorem laws_FnMakeReport.calls (k : Nat) (a0_0 : Bool) (a0_1 : Int) (a1 : Int) (r : Bool) (w : World) (hLD : Laid w) (h : laws_FnMakeReport.f k a0_0 a0_1 a1 = some r) :
    Calls Tryd.prog 11 #[.agg #[.bool a0_0, .int .i64 a0_1], .int .u8 a1] w fun e w' => e = .returned (.bool r) ∧ Below w.heap.size w w' := by
  have hu51 := Tryd.underlying51
  have HLD := Aside0.mk hLD
  clear hLD
  have HB := Aside0.mk (Below.refl w.heap.size w)
  have H : ((laws_makeAwake.f).bind fun t159 => (if t159 = true then ((impl_MakeReport.f a0_0 a0_1 a1).bind fun t160 => ((spec_MadeReport.f k a0_0 a0_1 a1).bind fun t161 => (some (t160.toList == t161.toList)))) else (some false))) = some r := h
  clear h
  replace H := Option.bind_eq_some_iff.mp H
  obtain ⟨t159, A30, H⟩ := H
  replace H : (if t159 = true then ((impl_MakeReport.f a0_0 a0_1 a1).bind fun t160 => ((spec_MadeReport.f k a0_0 a0_1 a1).bind fun t161 => (some (t160.toList == t161.toList)))) else (some false)) = some r := H
  have A3 := Aside0.mk A30
  clear A30
  by_cases c4 : t159 = true
  · subst c4
    have H1 : ((impl_MakeReport.f a0_0 a0_1 a1).bind fun t160 => ((spec_MadeReport.f k a0_0 a0_1 a1).bind fun t161 => (some (t160.toList == t161.toList)))) = some r := by rw [if_pos rfl] at H; exact H
    clear H
    have H := H1
    clear H1
    replace H := Option.bind_eq_some_iff.mp H
    obtain ⟨t160, A50, H⟩ := H
    replace H : ((spec_MadeReport.f k a0_0 a0_1 a1).bind fun t161 => (some (t160.toList == t161.toList))) = some r := H
    have A5 := Aside0.mk A50
    clear A50
    replace H := Option.bind_eq_some_iff.mp H
    obtain ⟨t161, A60, H⟩ := H
    replace H : (some (t160.toList == t161.toList)) = some r := H
    have A6 := Aside0.mk A60
    clear A60
    obtain rfl := Option.some.inj H
    go_enter Tryd.func11, Tryd.ntmps11
    try go_wp2_with (first | ((with_reducible refine gate_dst (N := 2) rfl ?_); refine box_event ?hg (N := 2) ?hd (cs := #[.bool a0_0, .int .i64 a0_1]) (t := 51) ?hr ?_; (case hd => rfl); (case hg => rfl); (case hr => first | (go_simp; done) | (go_simp; rfl)); intro gb158 hg w7 hbox hb; have n0_ := Aside0.mk (below_step (by repeat (first | (with_reducible first | exact HB.out | apply below_alloc | apply Go.Proofs.YtplmmblofhhikaaDoor.Ext.below_bytes | apply pw_below_drewN | apply below_drew1) | exact HB.out)) hb); have n1_ := Aside0.mk (hbox); have n2_ := Aside0.mk ((by rw [hg]; exact (below_size (by repeat (first | (with_reducible first | exact HB.out | apply below_alloc | apply Go.Proofs.YtplmmblofhhikaaDoor.Ext.below_bytes | apply pw_below_drewN | apply below_drew1) | exact HB.out))) : w.heap.size ≤ gb158)); have n3_ := Aside0.mk ((by rw [hg]; exact (below_size (by repeat (first | (with_reducible first | exact HB.out | apply below_alloc | apply Go.Proofs.YtplmmblofhhikaaDoor.Ext.below_bytes | apply pw_below_drewN | apply below_drew1) | exact HB.out))) : w.heap.size ≤ gb158)); clear HB; have HB := n0_; have BK158 := n1_; have GW158 := n2_; have GE158 := n3_; clear n0_ n1_ n2_ n3_; clear hb hbox hg))
    have n0_ := Aside0.mk (blk_drew BK158.out)
    have n1_ := Aside0.mk (below_drew1 HB.out)
    clear BK158
    clear HB
    have BK158 := n0_
    have HB := n1_
    clear n0_ n1_
    refine start_ (n := 11) (S := fun w' => w'.cell? ⟨gb158, 0, none⟩ = some (.bool a0_0) ∧ w'.cell? ⟨gb158, 1, none⟩ = some (.int .i64 a0_1)) (ds := []) #[false, false, false, false, false, false, false, false, false, false, false] (by kernel_rfl) rfl rfl ⟨(blk_cell BK158.out 0).trans rfl, (blk_cell BK158.out 1).trans rfl⟩ (fun hHeld => ?_); refine with_tabW laws_FnMakeReport.tab1 laws_FnMakeReport.bits1 (fun HT_ HW_ => ?_)
    generalize w7.drew = w8 at BK158 HB hHeld ⊢
    refine one_ (i := 0) (N := some 5) #[true, false, false, false, false, false, false, false, false, false, false] rfl rfl (one_of HT_.out (by kernel_rfl)) (by decide) (fun K hK => ?_)
    refine goes_ Tryd.func15 (by kernel_rfl) rfl #[] (by rfl) rfl rfl (by (try simp only [List.map_toArray, List.map_cons, List.map_nil]); first | done | rfl | (simp only [List.length_drop, List.length_take]; rfl) | (simp [Act.eval, *]; done) | (simp [Act.eval, *]; unfold wrap64; omega)) ?_
    with_reducible refine (laws_makeAwake.calls  true _ ?side1 A3.out).mono ?_
    (case side1 => exact HLD.out.below (by repeat (first | (with_reducible first | exact HB.out | apply below_alloc | apply Go.Proofs.YtplmmblofhhikaaDoor.Ext.below_bytes | apply pw_below_drewN | apply below_drew1 | refine below_set ?_ GE158.out) | exact HB.out)))
    rintro e w9 ⟨rfl, hb⟩
    refine ⟨_, rfl, ?_⟩
    have n0_ := Aside0.mk (blk_below (g := gb158) (o := .cells #[.bool a0_0, .int .i64 a0_1] 51 (0, 0)) (by (with_reducible repeat (first | refine blk_drewN ?_ _ | refine blk_drew ?_ | refine blk_alloc ?_ _)); exact BK158.out) hb)
    have n1_ := Aside0.mk (below_step (by repeat (first | (with_reducible first | exact HB.out | apply below_alloc | apply Go.Proofs.YtplmmblofhhikaaDoor.Ext.below_bytes | apply pw_below_drewN | apply below_drew1 | refine below_set ?_ GE158.out) | exact HB.out)) hb)
    clear BK158
    clear HB
    have BK158 := n0_
    have HB := n1_
    clear n0_ n1_
    (try clear hb)
    (try clear hb2)
    (try clear hk)
    (try clear hi)
    refine hK.out _ _ ⟨(blk_cell BK158.out 0).trans rfl, (blk_cell BK158.out 1).trans rfl⟩ (fun hHeld => ?_)
    clear hK K
    refine norm_ (a' := ?_) ?_ ?_
    rotate_left
    · show Act.put _ (some 5) _ = _
      simp only [Act.put, List.setIfInBounds_toArray, List.set_cons_zero, List.set_cons_succ, i64_w, i32_w]
      rfl
    refine pure_ (i := 1) (N := some 6) (v := ?_) (a' := ?_) #[true, true, false, false, false, false, false, false, false, false, false] rfl rfl (any_of HT_.out (by kernel_rfl)) (fun _ _ _ h => h) (Or.inl ⟨by rfl, ?_⟩) ?_ ?_
    rotate_left
    · intro w'
      go_simp
      with_reducible rfl
    rotate_left
    · simp only [Act.put, List.setIfInBounds_toArray, List.set_cons_zero, List.set_cons_succ, i64_w, i32_w]
      rfl
    refine pure_ (i := 3) (N := some 8) (v := ?_) (a' := ?_) #[true, true, false, true, false, false, false, false, false, false, false] rfl rfl (any_of HT_.out (by kernel_rfl)) (fun _ _ _ h => h) (Or.inl ⟨by rfl, ?_⟩) ?_ ?_
    rotate_left
    · intro w'
      go_simp
      with_reducible rfl
    rotate_left
    · simp only [Act.put, List.setIfInBounds_toArray, List.set_cons_zero, List.set_cons_succ, i64_w, i32_w]
      rfl
    refine pure_ (i := 6) (N := some 11) (v := ?_) (a' := ?_) #[true, true, false, true, false, false, true, false, false, false, false] rfl rfl (any_of HT_.out (by kernel_rfl)) (fun _ _ _ h => h) (Or.inl ⟨by rfl, ?_⟩) ?_ ?_
    rotate_left
    · intro w'
      go_simp
      with_reducible rfl
    rotate_left
    · simp only [Act.put, List.setIfInBounds_toArray, List.set_cons_zero, List.set_cons_succ, i64_w, i32_w]
      rfl
    refine take_ (i := 2) (N := some 7) (v := ?_) (a' := ?_) #[true, true, true, true, false, false, true, false, false, false, false] rfl rfl (take_ofW HT_.out HW_.out (by kernel_rfl)) (fun _ _ _ h => h) (Or.inl ⟨by rfl, ?_⟩) hHeld ?_ ?_
    rotate_left
    · rintro w' ⟨s0, s1⟩
      go_simp
      with_reducible rfl
    rotate_left
    · simp only [Act.put, List.setIfInBounds_toArray, List.set_cons_zero, List.set_cons_succ, i64_w, i32_w]
      rfl
    refine take_ (i := 5) (N := some 10) (v := ?_) (a' := ?_) #[true, true, true, true, false, true, true, false, false, false, false] rfl rfl (take_ofW HT_.out HW_.out (by kernel_rfl)) (fun _ _ _ h => h) (Or.inl ⟨by rfl, ?_⟩) hHeld ?_ ?_
    rotate_left
    · rintro w' ⟨s0, s1⟩
      go_simp
      with_reducible rfl
    rotate_left
    · simp only [Act.put, List.setIfInBounds_toArray, List.set_cons_zero, List.set_cons_succ, i64_w, i32_w]
      rfl
    refine one_ (i := 4) (N := some 9) #[true, true, true, true, true, true, true, false, false, false, false] rfl rfl (one_of HT_.out (by kernel_rfl)) (by decide) (fun K hK => ?_)
    refine goes_ Tryd.func29 (by kernel_rfl) rfl #[.agg #[.bool a0_0, .int .i64 a0_1], .int .u8 a1] (by rfl) rfl rfl (by (try simp only [List.map_toArray, List.map_cons, List.map_nil]); first | done | rfl | (simp only [List.length_drop, List.length_take]; rfl) | (simp [Act.eval, *]; done) | (simp [Act.eval, *]; unfold wrap64; omega)) ?_
    with_reducible refine (impl_MakeReport.calls a0_0 a0_1 a1 t160 _ ?side1 A5.out).mono ?_
    (case side1 => exact HLD.out.below (by repeat (first | (with_reducible first | exact HB.out | apply below_alloc | apply Go.Proofs.YtplmmblofhhikaaDoor.Ext.below_bytes | apply pw_below_drewN | apply below_drew1 | refine below_set ?_ GE158.out) | exact HB.out)))
    rintro e w10 ⟨rfl, hb⟩
    refine ⟨_, rfl, ?_⟩
    have n0_ := Aside0.mk (blk_below (g := gb158) (o := .cells #[.bool a0_0, .int .i64 a0_1] 51 (0, 0)) (by (with_reducible repeat (first | refine blk_drewN ?_ _ | refine blk_drew ?_ | refine blk_alloc ?_ _)); exact BK158.out) hb)
    have n1_ := Aside0.mk (below_step (by repeat (first | (with_reducible first | exact HB.out | apply below_alloc | apply Go.Proofs.YtplmmblofhhikaaDoor.Ext.below_bytes | apply pw_below_drewN | apply below_drew1 | refine below_set ?_ GE158.out) | exact HB.out)) hb)
    clear BK158
    clear HB
    have BK158 := n0_
    have HB := n1_
    clear n0_ n1_
    (try clear hb)
    (try clear hb2)
    (try clear hk)
    (try clear hi)
    refine hK.out _ _ ⟨(blk_cell BK158.out 0).trans rfl, (blk_cell BK158.out 1).trans rfl⟩ (fun hHeld => ?_)
    clear hK K
    refine norm_ (a' := ?_) ?_ ?_
    rotate_left
    · show Act.put _ (some 9) _ = _
      simp only [Act.put, List.setIfInBounds_toArray, List.set_cons_zero, List.set_cons_succ, i64_w, i32_w]
      rfl
    refine one_ (i := 7) (N := some 12) #[true, true, true, true, true, true, true, true, false, false, false] rfl rfl (one_of HT_.out (by kernel_rfl)) (by decide) (fun K hK => ?_)
    refine goes_ Tryd.func30 (by kernel_rfl) rfl #[.agg #[.bool a0_0, .int .i64 a0_1], .int .u8 a1] (by rfl) rfl rfl (by (try simp only [List.map_toArray, List.map_cons, List.map_nil]); first | done | rfl | (simp only [List.length_drop, List.length_take]; rfl) | (simp [Act.eval, *]; done) | (simp [Act.eval, *]; unfold wrap64; omega)) ?_
    with_reducible refine (spec_MadeReport.calls k a0_0 a0_1 a1 t161 _ A6.out).mono ?_
    rintro e w11 ⟨rfl, hb⟩
    refine ⟨_, rfl, ?_⟩
    have n0_ := Aside0.mk (blk_below (g := gb158) (o := .cells #[.bool a0_0, .int .i64 a0_1] 51 (0, 0)) (by (with_reducible repeat (first | refine blk_drewN ?_ _ | refine blk_drew ?_ | refine blk_alloc ?_ _)); exact BK158.out) hb)
    have n1_ := Aside0.mk (below_step (by repeat (first | (with_reducible first | exact HB.out | apply below_alloc | apply Go.Proofs.YtplmmblofhhikaaDoor.Ext.below_bytes | apply pw_below_drewN | apply below_drew1 | refine below_set ?_ GE158.out) | exact HB.out)) hb)
    clear BK158
    clear HB
    have BK158 := n0_
    have HB := n1_
    clear n0_ n1_
    (try clear hb)
    (try clear hb2)
    (try clear hk)
    (try clear hi)
    refine hK.out _ _ ⟨(blk_cell BK158.out 0).trans rfl, (blk_cell BK158.out 1).trans rfl⟩ (fun hHeld => ?_)
    clear hK K
    refine norm_ (a' := ?_) ?_ ?_
    rotate_left
    · show Act.put _ (some 12) _ = _
      simp only [Act.put, List.setIfInBounds_toArray, List.set_cons_zero, List.set_cons_succ, i64_w, i32_w]
      rfl
    refine pure_ (i := 8) (N := some 13) (v := ?_) (a' := ?_) #[true, true, true, true, true, true, true, true, true, false, false] rfl rfl (any_of HT_.out (by kernel_rfl)) (fun _ _ _ h => h) (Or.inl ⟨by rfl, ?_⟩) ?_ ?_
    rotate_left
    · intro w'
      go_simp
      with_reducible rfl
    rotate_left
    · simp only [Act.put, List.setIfInBounds_toArray, List.set_cons_zero, List.set_cons_succ, i64_w, i32_w]
      rfl
    refine pure_ (i := 9) (N := some 14) (v := ?_) (a' := ?_) #[true, true, true, true, true, true, true, true, true, true, false] rfl rfl (any_of HT_.out (by kernel_rfl)) (fun _ _ _ h => h) (Or.inl ⟨by rfl, ?_⟩) ?_ ?_
    rotate_left
    · intro w'
      go_simp
      with_reducible rfl
    rotate_left
    · simp only [Act.put, List.setIfInBounds_toArray, List.set_cons_zero, List.set_cons_succ, i64_w, i32_w]
      rfl
    refine pure_ (i := 10) (N := some 4) (v := ?_) (a' := ?_) #[true, true, true, true, true, true, true, true, true, true, true] rfl rfl (any_of HT_.out (by kernel_rfl)) (fun _ _ _ h => h) (Or.inl ⟨by rfl, ?_⟩) ?_ ?_
    rotate_left
    · intro w'
      go_simp
      with_reducible rfl
    rotate_left
    · simp only [Act.put, List.setIfInBounds_toArray, List.set_cons_zero, List.set_cons_succ, i64_w, i32_w]
      rfl
    refine done_ (done_of HT_.out (by kernel_rfl)) ?_
    try go_wp2
    go_ret
    exact ⟨by first | rfl | (simp [errW_none, errW_some] <;> rfl) | (simp [*, errW_none, errW_some] <;> rfl), by repeat (first | (with_reducible first | exact HB.out | apply below_alloc | apply Go.Proofs.YtplmmblofhhikaaDoor.Ext.below_bytes | apply pw_below_drewN | apply below_drew1 | refine below_set ?_ GE158.out) | exact HB.out)⟩
  · replace c4 := Bool.eq_false_iff.mpr c4
    subst c4
    have H1 : (some false) = some r := by rw [if_neg (show ¬ (false = true) by decide)] at H; exact H
    clear H
    have H := H1
    clear H1
    obtain rfl := Option.some.inj H
    go_enter Tryd.func11, Tryd.ntmps11
    try go_wp2_with (first | ((with_reducible refine gate_dst (N := 2) rfl ?_); refine box_event ?hg (N := 2) ?hd (cs := #[.bool a0_0, .int .i64 a0_1]) (t := 51) ?hr ?_; (case hd => rfl); (case hg => rfl); (case hr => first | (go_simp; done) | (go_simp; rfl)); intro gb158 hg w12 hbox hb; have n0_ := Aside0.mk (below_step (by repeat (first | (with_reducible first | exact HB.out | apply below_alloc | apply Go.Proofs.YtplmmblofhhikaaDoor.Ext.below_bytes | apply pw_below_drewN | apply below_drew1) | exact HB.out)) hb); have n1_ := Aside0.mk (hbox); have n2_ := Aside0.mk ((by rw [hg]; exact (below_size (by repeat (first | (with_reducible first | exact HB.out | apply below_alloc | apply Go.Proofs.YtplmmblofhhikaaDoor.Ext.below_bytes | apply pw_below_drewN | apply below_drew1) | exact HB.out))) : w.heap.size ≤ gb158)); have n3_ := Aside0.mk ((by rw [hg]; exact (below_size (by repeat (first | (with_reducible first | exact HB.out | apply below_alloc | apply Go.Proofs.YtplmmblofhhikaaDoor.Ext.below_bytes | apply pw_below_drewN | apply below_drew1) | exact HB.out))) : w.heap.size ≤ gb158)); clear HB; have HB := n0_; have BK158 := n1_; have GW158 := n2_; have GE158 := n3_; clear n0_ n1_ n2_ n3_; clear hb hbox hg))
    have n0_ := Aside0.mk (blk_drew BK158.out)
    have n1_ := Aside0.mk (below_drew1 HB.out)
    clear BK158
    clear HB
    have BK158 := n0_
    have HB := n1_
    clear n0_ n1_
    refine start_ (n := 11) (S := fun w' => True) (ds := []) #[false, false, false, false, false, false, false, false, false, false, false] (by kernel_rfl) rfl rfl trivial (fun hHeld => ?_); refine with_tabW laws_FnMakeReport.tab1 laws_FnMakeReport.bits1 (fun HT_ HW_ => ?_)
    generalize w12.drew = w13 at BK158 HB hHeld ⊢
    refine one_ (i := 0) (N := some 5) #[true, false, false, false, false, false, false, false, false, false, false] rfl rfl (one_of HT_.out (by kernel_rfl)) (by decide) (fun K hK => ?_)
    refine goes_ Tryd.func15 (by kernel_rfl) rfl #[] (by rfl) rfl rfl (by (try simp only [List.map_toArray, List.map_cons, List.map_nil]); first | done | rfl | (simp only [List.length_drop, List.length_take]; rfl) | (simp [Act.eval, *]; done) | (simp [Act.eval, *]; unfold wrap64; omega)) ?_
    with_reducible refine (laws_makeAwake.calls  false _ ?side1 A3.out).mono ?_
    (case side1 => exact HLD.out.below (by repeat (first | (with_reducible first | exact HB.out | apply below_alloc | apply Go.Proofs.YtplmmblofhhikaaDoor.Ext.below_bytes | apply pw_below_drewN | apply below_drew1 | refine below_set ?_ GE158.out) | exact HB.out)))
    rintro e w14 ⟨rfl, hb⟩
    refine ⟨_, rfl, ?_⟩
    have n0_ := Aside0.mk (blk_below (g := gb158) (o := .cells #[.bool a0_0, .int .i64 a0_1] 51 (0, 0)) (by (with_reducible repeat (first | refine blk_drewN ?_ _ | refine blk_drew ?_ | refine blk_alloc ?_ _)); exact BK158.out) hb)
    have n1_ := Aside0.mk (below_step (by repeat (first | (with_reducible first | exact HB.out | apply below_alloc | apply Go.Proofs.YtplmmblofhhikaaDoor.Ext.below_bytes | apply pw_below_drewN | apply below_drew1 | refine below_set ?_ GE158.out) | exact HB.out)) hb)
    clear BK158
    clear HB
    have BK158 := n0_
    have HB := n1_
    clear n0_ n1_
    (try clear hb)
    (try clear hb2)
    (try clear hk)
    (try clear hi)
    refine hK.out _ _ trivial (fun hHeld => ?_)
    clear hK K
    refine norm_ (a' := ?_) ?_ ?_
    rotate_left
    · show Act.put _ (some 5) _ = _
      simp only [Act.put, List.setIfInBounds_toArray, List.set_cons_zero, List.set_cons_succ, i64_w, i32_w]
      rfl
    refine pure_ (i := 1) (N := some 6) (v := ?_) (a' := ?_) #[true, true, false, false, false, false, false, false, false, false, false] rfl rfl (any_of HT_.out (by kernel_rfl)) (fun _ _ _ h => h) (Or.inl ⟨by rfl, ?_⟩) ?_ ?_
    rotate_left
    · intro w'
      go_simp
      with_reducible rfl
    rotate_left
    · simp only [Act.put, List.setIfInBounds_toArray, List.set_cons_zero, List.set_cons_succ, i64_w, i32_w]
      rfl
    refine pure_ (i := 2) (N := some 7) (v := undef) (a' := ?_) #[true, true, true, false, false, false, false, false, false, false, false] rfl rfl (any_of HT_.out (by kernel_rfl)) (fun _ _ _ h => h) (Or.inr ⟨by rfl, rfl⟩) ?_ ?_
    rotate_left
    · simp only [Act.put, List.setIfInBounds_toArray, List.set_cons_zero, List.set_cons_succ, i64_w, i32_w]
      rfl
    refine pure_ (i := 3) (N := some 8) (v := undef) (a' := ?_) #[true, true, true, true, false, false, false, false, false, false, false] rfl rfl (any_of HT_.out (by kernel_rfl)) (fun _ _ _ h => h) (Or.inr ⟨by rfl, rfl⟩) ?_ ?_
    rotate_left
    · simp only [Act.put, List.setIfInBounds_toArray, List.set_cons_zero, List.set_cons_succ, i64_w, i32_w]
      rfl
    refine pure_ (i := 4) (N := some 9) (v := undef) (a' := ?_) #[true, true, true, true, true, false, false, false, false, false, false] rfl rfl (any_of HT_.out (by kernel_rfl)) (fun _ _ _ h => h) (Or.inr ⟨by rfl, rfl⟩) ?_ ?_
    rotate_left
    · simp only [Act.put, List.setIfInBounds_toArray, List.set_cons_zero, List.set_cons_succ, i64_w, i32_w]
      rfl
    refine pure_ (i := 5) (N := some 10) (v := undef) (a' := ?_) #[true, true, true, true, true, true, false, false, false, false, false] rfl rfl (any_of HT_.out (by kernel_rfl)) (fun _ _ _ h => h) (Or.inr ⟨by rfl, rfl⟩) ?_ ?_
    rotate_left
    · simp only [Act.put, List.setIfInBounds_toArray, List.set_cons_zero, List.set_cons_succ, i64_w, i32_w]
      rfl
    refine pure_ (i := 6) (N := some 11) (v := undef) (a' := ?_) #[true, true, true, true, true, true, true, false, false, false, false] rfl rfl (any_of HT_.out (by kernel_rfl)) (fun _ _ _ h => h) (Or.inr ⟨by rfl, rfl⟩) ?_ ?_
    rotate_left
    · simp only [Act.put, List.setIfInBounds_toArray, List.set_cons_zero, List.set_cons_succ, i64_w, i32_w]
      rfl
    refine pure_ (i := 7) (N := some 12) (v := undef) (a' := ?_) #[true, true, true, true, true, true, true, true, false, false, false] rfl rfl (any_of HT_.out (by kernel_rfl)) (fun _ _ _ h => h) (Or.inr ⟨by rfl, rfl⟩) ?_ ?_
    rotate_left
    · simp only [Act.put, List.setIfInBounds_toArray, List.set_cons_zero, List.set_cons_succ, i64_w, i32_w]
      rfl
    refine pure_ (i := 8) (N := some 13) (v := undef) (a' := ?_) #[true, true, true, true, true, true, true, true, true, false, false] rfl rfl (any_of HT_.out (by kernel_rfl)) (fun _ _ _ h => h) (Or.inr ⟨by rfl, rfl⟩) ?_ ?_
    rotate_left
    · simp only [Act.put, List.setIfInBounds_toArray, List.set_cons_zero, List.set_cons_succ, i64_w, i32_w]
      rfl
    refine pure_ (i := 9) (N := some 14) (v := ?_) (a' := ?_) #[true, true, true, true, true, true, true, true, true, true, false] rfl rfl (any_of HT_.out (by kernel_rfl)) (fun _ _ _ h => h) (Or.inl ⟨by rfl, ?_⟩) ?_ ?_
    rotate_left
    · intro w'
      go_simp
      with_reducible rfl
    rotate_left
    · simp only [Act.put, List.setIfInBounds_toArray, List.set_cons_zero, List.set_cons_succ, i64_w, i32_w]
      rfl
    refine pure_ (i := 10) (N := some 4) (v := ?_) (a' := ?_) #[true, true, true, true, true, true, true, true, true, true, true] rfl rfl (any_of HT_.out (by kernel_rfl)) (fun _ _ _ h => h) (Or.inl ⟨by rfl, ?_⟩) ?_ ?_
    rotate_left
    · intro w'
      go_simp
      with_reducible rfl
    rotate_left
    · simp only [Act.put, List.setIfInBounds_toArray, List.set_cons_zero, List.set_cons_succ, i64_w, i32_w]
      rfl
    refine done_ (done_of HT_.out (by kernel_rfl)) ?_
    try go_wp2
    go_ret
    exact ⟨by first | rfl | (simp [errW_none, errW_some] <;> rfl) | (simp [*, errW_none, errW_some] <;> rfl), by repeat (first | (with_reducible first | exact HB.out | apply below_alloc | apply Go.Proofs.YtplmmblofhhikaaDoor.Ext.below_bytes | apply pw_below_drewN | apply below_drew1 | refine below_set ?_ GE158.out) | exact HB.out)⟩

end Go.Proofs.YtplmmblofhhikaaDoor.PO
