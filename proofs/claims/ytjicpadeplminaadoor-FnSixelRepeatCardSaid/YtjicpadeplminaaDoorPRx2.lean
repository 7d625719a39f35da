-- Written by wip/pp.py, a program of this session, out of the translation. Not trusted: Lean checks it.
import Derived.Test.YtjicpadeplminaaDoorPRx0
import Derived.Test.YtjicpadeplminaaDoorPRx1
namespace Go.Proofs.YtjicpadeplminaaDoor.PR
open Go.RowKit Go.Proofs.YtjicpadeplminaaDoor.Or Go.Proofs.YtjicpadeplminaaDoor.Bld Go.Proofs.YtjicpadeplminaaDoorW.PrintWords Go.Proofs.YtjicpadeplminaaDoorW.PrintLast Go.Proofs.YtjicpadeplminaaDoorW.PrintMore
attribute [local go_sem] max2_int min2_int max_two min_two max_three min_three max_four min_four   -- for this text's walks alone
attribute [local go_sem] Go.Proofs.YtjicpadeplminaaDoor.Ext.wrap64_mod256 Go.Proofs.YtjicpadeplminaaDoor.Ext.wrap64_mod32 Go.Proofs.YtjicpadeplminaaDoor.Ext.i64_mod256 Go.Proofs.YtjicpadeplminaaDoor.Ext.i64_mod32 Go.Proofs.YtjicpadeplminaaDoor.Ext.i64_u8 Go.Proofs.YtjicpadeplminaaDoor.Ext.w64_u8 Go.Proofs.YtjicpadeplminaaDoor.Ext.i64_u32 Go.Proofs.YtjicpadeplminaaDoor.Ext.w64_u32 
set_option linter.unusedVariables false
set_option linter.unusedSimpArgs false

/-! ### laws_FnSixelRepeat: function 4 -/
def laws_FnSixelRepeat.f (k : Nat) (a0 : Int) (a1 : Int) : Option (Bool) := if a1 ≥ 128 then ((impl_WriteRepeat.f 2 97).bind fun t114 => (some (t114.toList == ([33, 50, 97] : List UInt8)))) else ((spec_SixelNumber.f k a0).bind fun t115 => (if 1 + t115.size ≤ 9223372036854775807 then ((some (([a1] : List Int) : List Int)).bind fun y116 => (if 1 + t115.size + (strOfNums y116).size ≤ 9223372036854775807 then ((impl_WriteRepeat.f a0 a1).bind fun t119 => (if t119.toList = (((⟨#[33]⟩ : ByteArray) ++ t115) ++ (strOfNums y116)).toList then ((impl_RepeatText.f a0 a1).bind fun t120 => (some (t120.toList == (((⟨#[33]⟩ : ByteArray) ++ t115) ++ (strOfNums y116)).toList))) else (some false))) else (none))) else (none)))
theorem laws_FnSixelRepeat.mono : ∀ a0 a1 k, LeO (laws_FnSixelRepeat.f k a0 a1) (laws_FnSixelRepeat.f (k + 1) a0 a1) := by
  intro a0 a1 k
  unfold laws_FnSixelRepeat.f
  repeat' first
      | (with_reducible exact spec_SixelNumber.mono _ _)
      | (with_reducible exact LeO.refl _)
      | (with_reducible exact LeO.none _)
      | (with_reducible refine LeO.ite ?_ ?_)
      | (with_reducible refine LeO.bind ?_ (fun _ => ?_))
      | exact spec_SixelNumber.mono _ _
      | exact LeO.none _
      | refine LeO.ite ?_ ?_
      | refine LeO.bind ?_ (fun _ => ?_)
def laws_FnSixelRepeat.T3 : Bool × List (List Nat × List Nat) := (true, [([], []), ([0], [0]), ([1], [1]), ([], []), ([3], [3]), ([4], [4]), ([2, 5], [2, 5]), ([6, 1, 0, 1, 2, 3, 4, 5, 6], [6])])
def laws_FnSixelRepeat.B3 : List Nat := [0, 1, 3, 0, 8, 24, 63, 127]
theorem laws_FnSixelRepeat.tab3 : rtab .any (opsOf Tryd.f4 3) = laws_FnSixelRepeat.T3 := by kernel_rfl
theorem laws_FnSixelRepeat.bits3 : waitsOk laws_FnSixelRepeat.T3.2 laws_FnSixelRepeat.B3 = true := by kernel_rfl
set_option maxHeartbeats 8000000 in
set_option maxRecDepth 100000 in
theorem laws_FnSixelRepeat.calls (k : Nat) (a0 : Int) (a1 : Int) (r : Bool) (w : World) (hLD : Laid w) (h : laws_FnSixelRepeat.f k a0 a1 = some r) :
    Calls Tryd.prog 4 #[.int .i64 a0, .int .u8 a1] w fun e w' => e = .returned (.bool r) ∧ Below w.heap.size w w' := by
  have HLD := Aside0.mk hLD
  clear hLD
  have HB := Aside0.mk (Below.refl w.heap.size w)
  have H : (if a1 ≥ 128 then ((impl_WriteRepeat.f 2 97).bind fun t114 => (some (t114.toList == ([33, 50, 97] : List UInt8)))) else ((spec_SixelNumber.f k a0).bind fun t115 => (if 1 + t115.size ≤ 9223372036854775807 then ((some (([a1] : List Int) : List Int)).bind fun y116 => (if 1 + t115.size + (strOfNums y116).size ≤ 9223372036854775807 then ((impl_WriteRepeat.f a0 a1).bind fun t119 => (if t119.toList = (((⟨#[33]⟩ : ByteArray) ++ t115) ++ (strOfNums y116)).toList then ((impl_RepeatText.f a0 a1).bind fun t120 => (some (t120.toList == (((⟨#[33]⟩ : ByteArray) ++ t115) ++ (strOfNums y116)).toList))) else (some false))) else (none))) else (none)))) = some r := h
  clear h
  by_cases c3 : a1 ≥ 128
  · rw [if_pos c3] at H
    have c3b0 : decide (128 ≤ a1) = true := decide_eq_true c3
    clear c3
    replace H := Option.bind_eq_some_iff.mp H
    obtain ⟨t114, A40, H⟩ := H
    replace H : (some (t114.toList == ([33, 50, 97] : List UInt8))) = some r := H
    have A4 := Aside0.mk A40
    clear A40
    obtain rfl := Option.some.inj H
    go_enter Tryd.func4, Tryd.ntmps4
    go_wp2_with (first | ((with_reducible refine gate_callee (f := 9) rfl ?_); refine goesL_ (some 8) rfl rfl Tryd.func9 (by kernel_rfl) rfl #[.int .i64 2, .int .u8 97] rfl (by (try simp only [List.map_toArray, List.map_cons, List.map_nil]); first | done | rfl | (simp only [List.length_drop, List.length_take]; rfl) | (simp [Act.eval, *]; done) | (simp [Act.eval, *]; unfold wrap64; omega)) ?_; (with_reducible refine (impl_WriteRepeat.calls 2 97 t114 _ ?side1 A4.out).mono ?_); (case side1 => exact HLD.out.below (by repeat (first | (with_reducible first | exact HB.out | apply below_alloc | apply Go.Proofs.YtjicpadeplminaaDoor.Ext.below_bytes | apply pw_below_drewN | apply below_drew1) | exact HB.out))); rintro e w5 ⟨rfl, hb⟩; refine ⟨_, rfl, ?_⟩; have n0_ := Aside0.mk (below_step (by repeat (first | (with_reducible first | exact HB.out | apply below_alloc | apply Go.Proofs.YtjicpadeplminaaDoor.Ext.below_bytes | apply pw_below_drewN | apply below_drew1) | exact HB.out)) hb); clear HB; have HB := n0_; clear n0_; (try clear hb); (try clear hb2); (try clear hk); (try clear hi)))
    go_ret
    exact ⟨by first | rfl | (simp [errW_none, errW_some] <;> rfl) | (simp [*, errW_none, errW_some] <;> rfl), by repeat (first | (with_reducible first | exact HB.out | apply below_alloc | apply Go.Proofs.YtjicpadeplminaaDoor.Ext.below_bytes | apply pw_below_drewN | apply below_drew1) | exact HB.out)⟩
  · rw [if_neg c3] at H
    have c3b0 : decide (128 ≤ a1) = false := decide_eq_false c3
    clear c3
    replace H := Option.bind_eq_some_iff.mp H
    obtain ⟨t115, A60, H⟩ := H
    replace H : (if 1 + t115.size ≤ 9223372036854775807 then ((some (([a1] : List Int) : List Int)).bind fun y116 => (if 1 + t115.size + (strOfNums y116).size ≤ 9223372036854775807 then ((impl_WriteRepeat.f a0 a1).bind fun t119 => (if t119.toList = (((⟨#[33]⟩ : ByteArray) ++ t115) ++ (strOfNums y116)).toList then ((impl_RepeatText.f a0 a1).bind fun t120 => (some (t120.toList == (((⟨#[33]⟩ : ByteArray) ++ t115) ++ (strOfNums y116)).toList))) else (some false))) else (none))) else (none)) = some r := H
    have A6 := Aside0.mk A60
    clear A60
    by_cases c7 : 1 + t115.size ≤ 9223372036854775807
    · rw [if_pos c7] at H
      have c7b0 := eq_true c7
      have c7b1 : decide (1 + t115.size ≤ 9223372036854775807) = true := decide_eq_true c7
      try have c7b2 : (9223372036854775807 < 1 + t115.size) = False := eq_false (Nat.not_lt.2 c7)
      obtain ⟨y116, hy116⟩ : ∃ y_ : List Int, y_ = (([a1] : List Int)) := ⟨_, rfl⟩
      replace H : (if 1 + t115.size + (strOfNums y116).size ≤ 9223372036854775807 then ((impl_WriteRepeat.f a0 a1).bind fun t119 => (if t119.toList = (((⟨#[33]⟩ : ByteArray) ++ t115) ++ (strOfNums y116)).toList then ((impl_RepeatText.f a0 a1).bind fun t120 => (some (t120.toList == (((⟨#[33]⟩ : ByteArray) ++ t115) ++ (strOfNums y116)).toList))) else (some false))) else (none)) = some r := by first | (rw [hy116]; with_reducible exact H) | (have H2_ := (Option.bind_some _ _).symm.trans H; rw [hy116]; with_reducible exact H2_) | (have H2_ := (Option.bind_some _ _).symm.trans H; with_reducible exact H2_) | with_reducible exact H | (rw [hy116]; exact H) | exact H
      have Ny116 := Aside0.mk hy116
      clear hy116
      by_cases c8 : 1 + t115.size + (strOfNums y116).size ≤ 9223372036854775807
      · rw [if_pos c8] at H
        have c8b0 := eq_true c8
        have c8b1 : decide (1 + t115.size + (strOfNums y116).size ≤ 9223372036854775807) = true := decide_eq_true c8
        try have c8b2 : (9223372036854775807 < 1 + t115.size + (strOfNums y116).size) = False := eq_false (Nat.not_lt.2 c8)
        replace H := Option.bind_eq_some_iff.mp H
        obtain ⟨t119, A90, H⟩ := H
        replace H : (if t119.toList = (((⟨#[33]⟩ : ByteArray) ++ t115) ++ (strOfNums y116)).toList then ((impl_RepeatText.f a0 a1).bind fun t120 => (some (t120.toList == (((⟨#[33]⟩ : ByteArray) ++ t115) ++ (strOfNums y116)).toList))) else (some false)) = some r := H
        have A9 := Aside0.mk A90
        clear A90
        by_cases c10 : t119.toList = (((⟨#[33]⟩ : ByteArray) ++ t115) ++ (strOfNums y116)).toList
        · rw [if_pos c10] at H
          have c10b0 : (t119.toList == (((⟨#[33]⟩ : ByteArray) ++ t115) ++ (strOfNums y116)).toList) = true := beq_iff_eq.mpr c10
          have c10b1 : (t119.toList != (((⟨#[33]⟩ : ByteArray) ++ t115) ++ (strOfNums y116)).toList) = false := bne_eq_false_iff_eq.mpr c10
          clear c10
          replace H := Option.bind_eq_some_iff.mp H
          obtain ⟨t120, A110, H⟩ := H
          replace H : (some (t120.toList == (((⟨#[33]⟩ : ByteArray) ++ t115) ++ (strOfNums y116)).toList)) = some r := H
          have A11 := Aside0.mk A110
          clear A110
          obtain rfl := Option.some.inj H
          go_enter Tryd.func4, Tryd.ntmps4
          try go_wp2
          have n0_ := Aside0.mk (below_drew1 HB.out)
          clear HB
          have HB := n0_
          clear n0_
          refine start_ (n := 8) (S := fun w' => True) (ds := []) #[false, false, false, false, false, false, false, false] (by kernel_rfl) rfl rfl trivial (fun hHeld => ?_); refine with_tabW laws_FnSixelRepeat.tab3 laws_FnSixelRepeat.bits3 (fun HT_ HW_ => ?_)
          generalize w.drew = w12 at HB hHeld ⊢
          refine pure_ (i := 0) (N := some 10) (v := ?_) (a' := ?_) #[true, false, false, false, false, false, false, false] rfl rfl (any_of HT_.out (by kernel_rfl)) (fun _ _ _ h => h) (Or.inl ⟨by rfl, ?_⟩) ?_ ?_
          rotate_left
          · intro w'
            go_simp
            with_reducible rfl
          rotate_left
          · simp only [Act.put, List.setIfInBounds_toArray, List.set_cons_zero, List.set_cons_succ, i64_w, i32_w]
            rfl
          refine pure_ (i := 3) (N := some 13) (v := ?_) (a' := ?_) #[true, false, false, true, false, false, false, false] rfl rfl (any_of HT_.out (by kernel_rfl)) (fun _ _ _ h => h) (Or.inl ⟨by rfl, ?_⟩) ?_ ?_
          rotate_left
          · intro w'
            go_simp
            with_reducible rfl
          rotate_left
          · simp only [Act.put, List.setIfInBounds_toArray, List.set_cons_zero, List.set_cons_succ, i64_w, i32_w]
            rfl
          refine join_ (σ := Value) 2 #[true, true, true, true, true, true, false, false] (fun s_ => [(11, .string t115), (14, s_), (15, .string (strOfNums y116)), (12, .string ((⟨#[33]⟩ : ByteArray) ++ t115))]) (fun s_ w' => (Kd.R (Kd.int .u8) 5 w' w.heap.size (fun _ => True) s_ y116) ∧ (Below w.heap.size w w')) ?_ ?_
          rotate_left
          · intro hCont
            refine two_ (i := 1) (j := 4) (Ni := some 11) (Nj := some 14) #[true, true, false, true, false, false, false, false] #[true, false, false, true, true, false, false, false] rfl rfl rfl rfl (two_of HT_.out (by kernel_rfl)) (by decide) (by decide) (fun K hK => ?_) (fun K hK => ?_)
            · skip
              refine goes_ Tryd.func10 (by kernel_rfl) rfl #[.int .i64 a0] (by rfl) rfl rfl (by (try simp only [List.map_toArray, List.map_cons, List.map_nil]); first | done | rfl | (simp only [List.length_drop, List.length_take]; rfl) | (simp [Act.eval, *]; done) | (simp [Act.eval, *]; unfold wrap64; omega)) ?_
              with_reducible refine (spec_SixelNumber.calls k a0 t115 _ A6.out).mono ?_
              rintro e w13 ⟨rfl, hb⟩
              refine ⟨_, rfl, ?_⟩
              have n0_ := Aside0.mk (below_step (by repeat (first | (with_reducible first | exact HB.out | apply below_alloc | apply Go.Proofs.YtjicpadeplminaaDoor.Ext.below_bytes | apply pw_below_drewN | apply below_drew1) | exact HB.out)) hb)
              clear HB
              have HB := n0_
              clear n0_
              (try clear hb)
              (try clear hb2)
              (try clear hk)
              (try clear hi)
              refine hK.out _ _ trivial (fun hHeld => ?_)
              clear hK K
              refine norm_ (a' := ?_) ?_ ?_
              rotate_left
              · show Act.put _ (some 11) _ = _
                simp only [Act.put, List.setIfInBounds_toArray, List.set_cons_zero, List.set_cons_succ, i64_w, i32_w]
                rfl
              refine pure_ (i := 2) (N := some 12) (v := ?_) (a' := ?_) #[true, true, true, true, false, false, false, false] rfl rfl (any_of HT_.out (by kernel_rfl)) (fun _ _ _ h => h) (Or.inl ⟨by rfl, ?_⟩) ?_ ?_
              rotate_left
              · intro w'
                go_simp
                with_reducible rfl
              rotate_left
              · simp only [Act.put, List.setIfInBounds_toArray, List.set_cons_zero, List.set_cons_succ, i64_w, i32_w]
                rfl
              refine one_ (i := 4) (N := some 14) #[true, true, true, true, true, false, false, false] rfl rfl (one_of HT_.out (by kernel_rfl)) (by decide) (fun K hK => ?_)
              refine Kd.R_lit_step (Kd.int .u8) _ 5 ?hg (N := 14) ?hd (xs := ([a1] : List Int)) (inner := [.int .u8 a1]) (ok := fun _ => True) (okp := fun _ => True) ?hr ?hp (fun _ hk => hk) trivial (Below.refl _ _) (Nat.le_refl _) (by simp) ?_; (case hd => rfl); (case hg => rfl); (case hr => first | (go_simp; done) | (go_simp; rfl)); (case hp => exact (Reps.one (show Kd.M (Kd.int .u8) _ _ _ a1 [.int .u8 a1] from rfl) (Reps.none _ _)))
              intro v117 w14 ho15 hb hg_ hnew_
              clear hg_ hnew_
              (first | rw [← Ny116.out] at ho15 | (simp only [Int.reduceToNat] at ho15; rw [← Ny116.out] at ho15))
              have n0_ := Aside0.mk (Kd.R_lower ho15 (below_size (by repeat (first | (with_reducible first | exact HB.out | apply below_alloc | apply Go.Proofs.YtjicpadeplminaaDoor.Ext.below_bytes | apply pw_below_drewN | apply below_drew1) | exact HB.out))))
              have n1_ := Aside0.mk (below_step (by repeat (first | (with_reducible first | exact HB.out | apply below_alloc | apply Go.Proofs.YtjicpadeplminaaDoor.Ext.below_bytes | apply pw_below_drewN | apply below_drew1) | exact HB.out)) hb)
              clear HB
              have HO118 := n0_
              have HB := n1_
              clear n0_ n1_
              clear hb ho15
              refine hK.out _ _ trivial (fun hHeld => ?_)
              clear hK K
              refine norm_ (a' := ?_) ?_ ?_
              rotate_left
              · show Act.put _ (some 14) _ = _
                simp only [Act.put, List.setIfInBounds_toArray, List.set_cons_zero, List.set_cons_succ, i64_w, i32_w]
                rfl
              refine one_ (i := 5) (N := some 15) #[true, true, true, true, true, true, false, false] rfl rfl (one_of HT_.out (by kernel_rfl)) (by decide) (fun K hK => ?_)
              have hcv16 := own_string (P := Tryd.prog) Tryd.underlying30 Tryd.underlying5 Tryd.underlying9 (Kd.own_of_R HO118.out)
              refine value_ (w1 := ?_) (v := ?_) (by rfl) rfl ?_ ?_
              rotate_left 2
              · go_simp
                constructor
                · rfl
                · rfl
              clear hcv16
              refine hK.out _ _ trivial (fun hHeld => ?_)
              clear hK K
              refine norm_ (a' := ?_) ?_ ?_
              rotate_left
              · show Act.put _ (some 15) _ = _
                simp only [Act.put, List.setIfInBounds_toArray, List.set_cons_zero, List.set_cons_succ, i64_w, i32_w]
                rfl
              exact norm_ (by simp only [putAll, Act.put, List.setIfInBounds_toArray, List.set_cons_zero, List.set_cons_succ]) (hCont (v117) _ ⟨(by (with_reducible repeat (first | apply Kd.R_alloc | apply Go.Proofs.YtjicpadeplminaaDoor.Ext.R_bytes | apply Kd.R_drewN | apply Kd.R_drew)); exact HO118.out), (by repeat (first | (with_reducible first | exact HB.out | apply below_alloc | apply Go.Proofs.YtjicpadeplminaaDoor.Ext.below_bytes | apply pw_below_drewN | apply below_drew1) | exact HB.out))⟩)
            · skip
              refine Kd.R_lit_step (Kd.int .u8) _ 5 ?hg (N := 14) ?hd (xs := ([a1] : List Int)) (inner := [.int .u8 a1]) (ok := fun _ => True) (okp := fun _ => True) ?hr ?hp (fun _ hk => hk) trivial (Below.refl _ _) (Nat.le_refl _) (by simp) ?_; (case hd => rfl); (case hg => rfl); (case hr => first | (go_simp; done) | (go_simp; rfl)); (case hp => exact (Reps.one (show Kd.M (Kd.int .u8) _ _ _ a1 [.int .u8 a1] from rfl) (Reps.none _ _)))
              intro v117 w13 ho14 hb hg_ hnew_
              clear hg_ hnew_
              (first | rw [← Ny116.out] at ho14 | (simp only [Int.reduceToNat] at ho14; rw [← Ny116.out] at ho14))
              have n0_ := Aside0.mk (Kd.R_lower ho14 (below_size (by repeat (first | (with_reducible first | exact HB.out | apply below_alloc | apply Go.Proofs.YtjicpadeplminaaDoor.Ext.below_bytes | apply pw_below_drewN | apply below_drew1) | exact HB.out))))
              have n1_ := Aside0.mk (below_step (by repeat (first | (with_reducible first | exact HB.out | apply below_alloc | apply Go.Proofs.YtjicpadeplminaaDoor.Ext.below_bytes | apply pw_below_drewN | apply below_drew1) | exact HB.out)) hb)
              clear HB
              have HO118 := n0_
              have HB := n1_
              clear n0_ n1_
              clear hb ho14
              refine hK.out _ _ trivial (fun hHeld => ?_)
              clear hK K
              refine norm_ (a' := ?_) ?_ ?_
              rotate_left
              · show Act.put _ (some 14) _ = _
                simp only [Act.put, List.setIfInBounds_toArray, List.set_cons_zero, List.set_cons_succ, i64_w, i32_w]
                rfl
              refine two_ (i := 1) (j := 5) (Ni := some 11) (Nj := some 15) #[true, true, false, true, true, false, false, false] #[true, false, false, true, true, true, false, false] rfl rfl rfl rfl (two_of HT_.out (by kernel_rfl)) (by decide) (by decide) (fun K hK => ?_) (fun K hK => ?_)
              · skip
                refine goes_ Tryd.func10 (by kernel_rfl) rfl #[.int .i64 a0] (by rfl) rfl rfl (by (try simp only [List.map_toArray, List.map_cons, List.map_nil]); first | done | rfl | (simp only [List.length_drop, List.length_take]; rfl) | (simp [Act.eval, *]; done) | (simp [Act.eval, *]; unfold wrap64; omega)) ?_
                with_reducible refine (spec_SixelNumber.calls k a0 t115 _ A6.out).mono ?_
                rintro e w15 ⟨rfl, hb⟩
                refine ⟨_, rfl, ?_⟩
                have n0_ := Aside0.mk (Kd.R_below (by (with_reducible repeat (first | apply Kd.R_alloc | apply Go.Proofs.YtjicpadeplminaaDoor.Ext.R_bytes | apply Kd.R_drewN | apply Kd.R_drew)); exact HO118.out) hb)
                have n1_ := Aside0.mk (below_step (by repeat (first | (with_reducible first | exact HB.out | apply below_alloc | apply Go.Proofs.YtjicpadeplminaaDoor.Ext.below_bytes | apply pw_below_drewN | apply below_drew1) | exact HB.out)) hb)
                clear HO118
                clear HB
                have HO118 := n0_
                have HB := n1_
                clear n0_ n1_
                (try clear hb)
                (try clear hb2)
                (try clear hk)
                (try clear hi)
                refine hK.out _ _ trivial (fun hHeld => ?_)
                clear hK K
                refine norm_ (a' := ?_) ?_ ?_
                rotate_left
                · show Act.put _ (some 11) _ = _
                  simp only [Act.put, List.setIfInBounds_toArray, List.set_cons_zero, List.set_cons_succ, i64_w, i32_w]
                  rfl
                refine pure_ (i := 2) (N := some 12) (v := ?_) (a' := ?_) #[true, true, true, true, true, false, false, false] rfl rfl (any_of HT_.out (by kernel_rfl)) (fun _ _ _ h => h) (Or.inl ⟨by rfl, ?_⟩) ?_ ?_
                rotate_left
                · intro w'
                  go_simp
                  with_reducible rfl
                rotate_left
                · simp only [Act.put, List.setIfInBounds_toArray, List.set_cons_zero, List.set_cons_succ, i64_w, i32_w]
                  rfl
                refine one_ (i := 5) (N := some 15) #[true, true, true, true, true, true, false, false] rfl rfl (one_of HT_.out (by kernel_rfl)) (by decide) (fun K hK => ?_)
                have hcv16 := own_string (P := Tryd.prog) Tryd.underlying30 Tryd.underlying5 Tryd.underlying9 (Kd.own_of_R HO118.out)
                refine value_ (w1 := ?_) (v := ?_) (by rfl) rfl ?_ ?_
                rotate_left 2
                · go_simp
                  constructor
                  · rfl
                  · rfl
                clear hcv16
                refine hK.out _ _ trivial (fun hHeld => ?_)
                clear hK K
                refine norm_ (a' := ?_) ?_ ?_
                rotate_left
                · show Act.put _ (some 15) _ = _
                  simp only [Act.put, List.setIfInBounds_toArray, List.set_cons_zero, List.set_cons_succ, i64_w, i32_w]
                  rfl
                exact norm_ (by simp only [putAll, Act.put, List.setIfInBounds_toArray, List.set_cons_zero, List.set_cons_succ]) (hCont (v117) _ ⟨(by (with_reducible repeat (first | apply Kd.R_alloc | apply Go.Proofs.YtjicpadeplminaaDoor.Ext.R_bytes | apply Kd.R_drewN | apply Kd.R_drew)); exact HO118.out), (by repeat (first | (with_reducible first | exact HB.out | apply below_alloc | apply Go.Proofs.YtjicpadeplminaaDoor.Ext.below_bytes | apply pw_below_drewN | apply below_drew1) | exact HB.out))⟩)
              · skip
                have hcv15 := own_string (P := Tryd.prog) Tryd.underlying30 Tryd.underlying5 Tryd.underlying9 (Kd.own_of_R HO118.out)
                refine value_ (w1 := ?_) (v := ?_) (by rfl) rfl ?_ ?_
                rotate_left 2
                · go_simp
                  constructor
                  · rfl
                  · rfl
                clear hcv15
                refine hK.out _ _ trivial (fun hHeld => ?_)
                clear hK K
                refine norm_ (a' := ?_) ?_ ?_
                rotate_left
                · show Act.put _ (some 15) _ = _
                  simp only [Act.put, List.setIfInBounds_toArray, List.set_cons_zero, List.set_cons_succ, i64_w, i32_w]
                  rfl
                refine one_ (i := 1) (N := some 11) #[true, true, false, true, true, true, false, false] rfl rfl (one_of HT_.out (by kernel_rfl)) (by decide) (fun K hK => ?_)
                refine goes_ Tryd.func10 (by kernel_rfl) rfl #[.int .i64 a0] (by rfl) rfl rfl (by (try simp only [List.map_toArray, List.map_cons, List.map_nil]); first | done | rfl | (simp only [List.length_drop, List.length_take]; rfl) | (simp [Act.eval, *]; done) | (simp [Act.eval, *]; unfold wrap64; omega)) ?_
                with_reducible refine (spec_SixelNumber.calls k a0 t115 _ A6.out).mono ?_
                rintro e w16 ⟨rfl, hb⟩
                refine ⟨_, rfl, ?_⟩
                have n0_ := Aside0.mk (Kd.R_below (by (with_reducible repeat (first | apply Kd.R_alloc | apply Go.Proofs.YtjicpadeplminaaDoor.Ext.R_bytes | apply Kd.R_drewN | apply Kd.R_drew)); exact HO118.out) hb)
                have n1_ := Aside0.mk (below_step (by repeat (first | (with_reducible first | exact HB.out | apply below_alloc | apply Go.Proofs.YtjicpadeplminaaDoor.Ext.below_bytes | apply pw_below_drewN | apply below_drew1) | exact HB.out)) hb)
                clear HO118
                clear HB
                have HO118 := n0_
                have HB := n1_
                clear n0_ n1_
                (try clear hb)
                (try clear hb2)
                (try clear hk)
                (try clear hi)
                refine hK.out _ _ trivial (fun hHeld => ?_)
                clear hK K
                refine norm_ (a' := ?_) ?_ ?_
                rotate_left
                · show Act.put _ (some 11) _ = _
                  simp only [Act.put, List.setIfInBounds_toArray, List.set_cons_zero, List.set_cons_succ, i64_w, i32_w]
                  rfl
                refine pure_ (i := 2) (N := some 12) (v := ?_) (a' := ?_) #[true, true, true, true, true, true, false, false] rfl rfl (any_of HT_.out (by kernel_rfl)) (fun _ _ _ h => h) (Or.inl ⟨by rfl, ?_⟩) ?_ ?_
                rotate_left
                · intro w'
                  go_simp
                  with_reducible rfl
                rotate_left
                · simp only [Act.put, List.setIfInBounds_toArray, List.set_cons_zero, List.set_cons_succ, i64_w, i32_w]
                  rfl
                exact norm_ (by simp only [putAll, Act.put, List.setIfInBounds_toArray, List.set_cons_zero, List.set_cons_succ]) (hCont (v117) _ ⟨(by (with_reducible repeat (first | apply Kd.R_alloc | apply Go.Proofs.YtjicpadeplminaaDoor.Ext.R_bytes | apply Kd.R_drewN | apply Kd.R_drew)); exact HO118.out), (by repeat (first | (with_reducible first | exact HB.out | apply below_alloc | apply Go.Proofs.YtjicpadeplminaaDoor.Ext.below_bytes | apply pw_below_drewN | apply below_drew1) | exact HB.out))⟩)
          rintro v117 w17 ⟨h0_, h1_⟩
          have n0_ : Aside0 (Kd.R (Kd.int .u8) 5 w17 w.heap.size (fun _ => True) v117 y116) := ⟨h0_⟩
          have n1_ : Aside0 (Below w.heap.size w w17) := ⟨h1_⟩
          clear HB
          clear h0_ h1_
          have HO118 := n0_
          have HB := n1_
          clear n0_ n1_
          have hHeld := trivial
          refine norm_ (a' := ?_) ?_ ?_
          rotate_left
          · simp only [putAll, Act.put, List.setIfInBounds_toArray, List.set_cons_zero, List.set_cons_succ]
            rfl
          refine pure_ (i := 6) (N := some 16) (v := ?_) (a' := ?_) #[true, true, true, true, true, true, true, false] rfl rfl (any_of HT_.out (by kernel_rfl)) (fun _ _ _ h => h) (Or.inl ⟨by rfl, ?_⟩) ?_ ?_
          rotate_left
          · intro w'
            go_simp
            with_reducible rfl
          rotate_left
          · simp only [Act.put, List.setIfInBounds_toArray, List.set_cons_zero, List.set_cons_succ, i64_w, i32_w]
            rfl
          refine pure_ (i := 7) (N := some 5) (v := ?_) (a' := ?_) #[true, true, true, true, true, true, true, true] rfl rfl (any_of HT_.out (by kernel_rfl)) (fun _ _ _ h => h) (Or.inl ⟨by rfl, ?_⟩) ?_ ?_
          rotate_left
          · intro w'
            go_simp
            with_reducible rfl
          rotate_left
          · simp only [Act.put, List.setIfInBounds_toArray, List.set_cons_zero, List.set_cons_succ, i64_w, i32_w]
            rfl
          refine done_ (done_of HT_.out (by kernel_rfl)) ?_
          try go_wp2_with (first | ((with_reducible refine gate_callee (f := 9) rfl ?_); refine goesL_ (some 19) rfl rfl Tryd.func9 (by kernel_rfl) rfl #[.int .i64 a0, .int .u8 a1] rfl (by (try simp only [List.map_toArray, List.map_cons, List.map_nil]); first | done | rfl | (simp only [List.length_drop, List.length_take]; rfl) | (simp [Act.eval, *]; done) | (simp [Act.eval, *]; unfold wrap64; omega)) ?_; (with_reducible refine (impl_WriteRepeat.calls a0 a1 t119 _ ?side1 A9.out).mono ?_); (case side1 => exact HLD.out.below (by repeat (first | (with_reducible first | exact HB.out | apply below_alloc | apply Go.Proofs.YtjicpadeplminaaDoor.Ext.below_bytes | apply pw_below_drewN | apply below_drew1) | exact HB.out))); rintro e w18 ⟨rfl, hb⟩; refine ⟨_, rfl, ?_⟩; have n0_ := Aside0.mk (Kd.R_below (by (with_reducible repeat (first | apply Kd.R_alloc | apply Go.Proofs.YtjicpadeplminaaDoor.Ext.R_bytes | apply Kd.R_drewN | apply Kd.R_drew)); exact HO118.out) hb); have n1_ := Aside0.mk (below_step (by repeat (first | (with_reducible first | exact HB.out | apply below_alloc | apply Go.Proofs.YtjicpadeplminaaDoor.Ext.below_bytes | apply pw_below_drewN | apply below_drew1) | exact HB.out)) hb); clear HO118; clear HB; have HO118 := n0_; have HB := n1_; clear n0_ n1_; (try clear hb); (try clear hb2); (try clear hk); (try clear hi)) | (go_at_call 11; (with_reducible refine (impl_RepeatText.calls a0 a1 t120 _ ?side1 A11.out).mono ?_); (case side1 => exact HLD.out.below (by repeat (first | (with_reducible first | exact HB.out | apply below_alloc | apply Go.Proofs.YtjicpadeplminaaDoor.Ext.below_bytes | apply pw_below_drewN | apply below_drew1) | exact HB.out))); rintro e w19 ⟨rfl, hb⟩; have n0_ := Aside0.mk (Kd.R_below (by (with_reducible repeat (first | apply Kd.R_alloc | apply Go.Proofs.YtjicpadeplminaaDoor.Ext.R_bytes | apply Kd.R_drewN | apply Kd.R_drew)); exact HO118.out) hb); have n1_ := Aside0.mk (below_step (by repeat (first | (with_reducible first | exact HB.out | apply below_alloc | apply Go.Proofs.YtjicpadeplminaaDoor.Ext.below_bytes | apply pw_below_drewN | apply below_drew1) | exact HB.out)) hb); clear HO118; clear HB; have HO118 := n0_; have HB := n1_; clear n0_ n1_; (try clear hb); (try clear hb2); (try clear hk); (try clear hi)))
          go_ret
          exact ⟨by first | rfl | (simp [errW_none, errW_some] <;> rfl) | (simp [*, errW_none, errW_some] <;> rfl), by repeat (first | (with_reducible first | exact HB.out | apply below_alloc | apply Go.Proofs.YtjicpadeplminaaDoor.Ext.below_bytes | apply pw_below_drewN | apply below_drew1) | exact HB.out)⟩
        · rw [if_neg c10] at H
          have c10b0 : (t119.toList == (((⟨#[33]⟩ : ByteArray) ++ t115) ++ (strOfNums y116)).toList) = false := beq_eq_false_iff_ne.mpr c10
          have c10b1 : (t119.toList != (((⟨#[33]⟩ : ByteArray) ++ t115) ++ (strOfNums y116)).toList) = true := bne_iff_ne.mpr c10
          obtain rfl := Option.some.inj H
          go_enter Tryd.func4, Tryd.ntmps4
          try go_wp2
          have n0_ := Aside0.mk (below_drew1 HB.out)
          clear HB
          have HB := n0_
          clear n0_
          refine start_ (n := 8) (S := fun w' => True) (ds := []) #[false, false, false, false, false, false, false, false] (by kernel_rfl) rfl rfl trivial (fun hHeld => ?_); refine with_tabW laws_FnSixelRepeat.tab3 laws_FnSixelRepeat.bits3 (fun HT_ HW_ => ?_)
          generalize w.drew = w20 at HB hHeld ⊢
          refine pure_ (i := 0) (N := some 10) (v := ?_) (a' := ?_) #[true, false, false, false, false, false, false, false] rfl rfl (any_of HT_.out (by kernel_rfl)) (fun _ _ _ h => h) (Or.inl ⟨by rfl, ?_⟩) ?_ ?_
          rotate_left
          · intro w'
            go_simp
            with_reducible rfl
          rotate_left
          · simp only [Act.put, List.setIfInBounds_toArray, List.set_cons_zero, List.set_cons_succ, i64_w, i32_w]
            rfl
          refine pure_ (i := 3) (N := some 13) (v := ?_) (a' := ?_) #[true, false, false, true, false, false, false, false] rfl rfl (any_of HT_.out (by kernel_rfl)) (fun _ _ _ h => h) (Or.inl ⟨by rfl, ?_⟩) ?_ ?_
          rotate_left
          · intro w'
            go_simp
            with_reducible rfl
          rotate_left
          · simp only [Act.put, List.setIfInBounds_toArray, List.set_cons_zero, List.set_cons_succ, i64_w, i32_w]
            rfl
          refine join_ (σ := Value) 2 #[true, true, true, true, true, true, false, false] (fun s_ => [(11, .string t115), (14, s_), (15, .string (strOfNums y116)), (12, .string ((⟨#[33]⟩ : ByteArray) ++ t115))]) (fun s_ w' => (Kd.R (Kd.int .u8) 5 w' w.heap.size (fun _ => True) s_ y116) ∧ (Below w.heap.size w w')) ?_ ?_
          rotate_left
          · intro hCont
            refine two_ (i := 1) (j := 4) (Ni := some 11) (Nj := some 14) #[true, true, false, true, false, false, false, false] #[true, false, false, true, true, false, false, false] rfl rfl rfl rfl (two_of HT_.out (by kernel_rfl)) (by decide) (by decide) (fun K hK => ?_) (fun K hK => ?_)
            · skip
              refine goes_ Tryd.func10 (by kernel_rfl) rfl #[.int .i64 a0] (by rfl) rfl rfl (by (try simp only [List.map_toArray, List.map_cons, List.map_nil]); first | done | rfl | (simp only [List.length_drop, List.length_take]; rfl) | (simp [Act.eval, *]; done) | (simp [Act.eval, *]; unfold wrap64; omega)) ?_
              with_reducible refine (spec_SixelNumber.calls k a0 t115 _ A6.out).mono ?_
              rintro e w21 ⟨rfl, hb⟩
              refine ⟨_, rfl, ?_⟩
              have n0_ := Aside0.mk (below_step (by repeat (first | (with_reducible first | exact HB.out | apply below_alloc | apply Go.Proofs.YtjicpadeplminaaDoor.Ext.below_bytes | apply pw_below_drewN | apply below_drew1) | exact HB.out)) hb)
              clear HB
              have HB := n0_
              clear n0_
              (try clear hb)
              (try clear hb2)
              (try clear hk)
              (try clear hi)
              refine hK.out _ _ trivial (fun hHeld => ?_)
              clear hK K
              refine norm_ (a' := ?_) ?_ ?_
              rotate_left
              · show Act.put _ (some 11) _ = _
                simp only [Act.put, List.setIfInBounds_toArray, List.set_cons_zero, List.set_cons_succ, i64_w, i32_w]
                rfl
              refine pure_ (i := 2) (N := some 12) (v := ?_) (a' := ?_) #[true, true, true, true, false, false, false, false] rfl rfl (any_of HT_.out (by kernel_rfl)) (fun _ _ _ h => h) (Or.inl ⟨by rfl, ?_⟩) ?_ ?_
              rotate_left
              · intro w'
                go_simp
                with_reducible rfl
              rotate_left
              · simp only [Act.put, List.setIfInBounds_toArray, List.set_cons_zero, List.set_cons_succ, i64_w, i32_w]
                rfl
              refine one_ (i := 4) (N := some 14) #[true, true, true, true, true, false, false, false] rfl rfl (one_of HT_.out (by kernel_rfl)) (by decide) (fun K hK => ?_)
              refine Kd.R_lit_step (Kd.int .u8) _ 5 ?hg (N := 14) ?hd (xs := ([a1] : List Int)) (inner := [.int .u8 a1]) (ok := fun _ => True) (okp := fun _ => True) ?hr ?hp (fun _ hk => hk) trivial (Below.refl _ _) (Nat.le_refl _) (by simp) ?_; (case hd => rfl); (case hg => rfl); (case hr => first | (go_simp; done) | (go_simp; rfl)); (case hp => exact (Reps.one (show Kd.M (Kd.int .u8) _ _ _ a1 [.int .u8 a1] from rfl) (Reps.none _ _)))
              intro v117 w22 ho23 hb hg_ hnew_
              clear hg_ hnew_
              (first | rw [← Ny116.out] at ho23 | (simp only [Int.reduceToNat] at ho23; rw [← Ny116.out] at ho23))
              have n0_ := Aside0.mk (Kd.R_lower ho23 (below_size (by repeat (first | (with_reducible first | exact HB.out | apply below_alloc | apply Go.Proofs.YtjicpadeplminaaDoor.Ext.below_bytes | apply pw_below_drewN | apply below_drew1) | exact HB.out))))
              have n1_ := Aside0.mk (below_step (by repeat (first | (with_reducible first | exact HB.out | apply below_alloc | apply Go.Proofs.YtjicpadeplminaaDoor.Ext.below_bytes | apply pw_below_drewN | apply below_drew1) | exact HB.out)) hb)
              clear HB
              have HO118 := n0_
              have HB := n1_
              clear n0_ n1_
              clear hb ho23
              refine hK.out _ _ trivial (fun hHeld => ?_)
              clear hK K
              refine norm_ (a' := ?_) ?_ ?_
              rotate_left
              · show Act.put _ (some 14) _ = _
                simp only [Act.put, List.setIfInBounds_toArray, List.set_cons_zero, List.set_cons_succ, i64_w, i32_w]
                rfl
              refine one_ (i := 5) (N := some 15) #[true, true, true, true, true, true, false, false] rfl rfl (one_of HT_.out (by kernel_rfl)) (by decide) (fun K hK => ?_)
              have hcv24 := own_string (P := Tryd.prog) Tryd.underlying30 Tryd.underlying5 Tryd.underlying9 (Kd.own_of_R HO118.out)
              refine value_ (w1 := ?_) (v := ?_) (by rfl) rfl ?_ ?_
              rotate_left 2
              · go_simp
                constructor
                · rfl
                · rfl
              clear hcv24
              refine hK.out _ _ trivial (fun hHeld => ?_)
              clear hK K
              refine norm_ (a' := ?_) ?_ ?_
              rotate_left
              · show Act.put _ (some 15) _ = _
                simp only [Act.put, List.setIfInBounds_toArray, List.set_cons_zero, List.set_cons_succ, i64_w, i32_w]
                rfl
              exact norm_ (by simp only [putAll, Act.put, List.setIfInBounds_toArray, List.set_cons_zero, List.set_cons_succ]) (hCont (v117) _ ⟨(by (with_reducible repeat (first | apply Kd.R_alloc | apply Go.Proofs.YtjicpadeplminaaDoor.Ext.R_bytes | apply Kd.R_drewN | apply Kd.R_drew)); exact HO118.out), (by repeat (first | (with_reducible first | exact HB.out | apply below_alloc | apply Go.Proofs.YtjicpadeplminaaDoor.Ext.below_bytes | apply pw_below_drewN | apply below_drew1) | exact HB.out))⟩)
            · skip
              refine Kd.R_lit_step (Kd.int .u8) _ 5 ?hg (N := 14) ?hd (xs := ([a1] : List Int)) (inner := [.int .u8 a1]) (ok := fun _ => True) (okp := fun _ => True) ?hr ?hp (fun _ hk => hk) trivial (Below.refl _ _) (Nat.le_refl _) (by simp) ?_; (case hd => rfl); (case hg => rfl); (case hr => first | (go_simp; done) | (go_simp; rfl)); (case hp => exact (Reps.one (show Kd.M (Kd.int .u8) _ _ _ a1 [.int .u8 a1] from rfl) (Reps.none _ _)))
              intro v117 w21 ho22 hb hg_ hnew_
              clear hg_ hnew_
              (first | rw [← Ny116.out] at ho22 | (simp only [Int.reduceToNat] at ho22; rw [← Ny116.out] at ho22))
              have n0_ := Aside0.mk (Kd.R_lower ho22 (below_size (by repeat (first | (with_reducible first | exact HB.out | apply below_alloc | apply Go.Proofs.YtjicpadeplminaaDoor.Ext.below_bytes | apply pw_below_drewN | apply below_drew1) | exact HB.out))))
              have n1_ := Aside0.mk (below_step (by repeat (first | (with_reducible first | exact HB.out | apply below_alloc | apply Go.Proofs.YtjicpadeplminaaDoor.Ext.below_bytes | apply pw_below_drewN | apply below_drew1) | exact HB.out)) hb)
              clear HB
              have HO118 := n0_
              have HB := n1_
              clear n0_ n1_
              clear hb ho22
              refine hK.out _ _ trivial (fun hHeld => ?_)
              clear hK K
              refine norm_ (a' := ?_) ?_ ?_
              rotate_left
              · show Act.put _ (some 14) _ = _
                simp only [Act.put, List.setIfInBounds_toArray, List.set_cons_zero, List.set_cons_succ, i64_w, i32_w]
                rfl
              refine two_ (i := 1) (j := 5) (Ni := some 11) (Nj := some 15) #[true, true, false, true, true, false, false, false] #[true, false, false, true, true, true, false, false] rfl rfl rfl rfl (two_of HT_.out (by kernel_rfl)) (by decide) (by decide) (fun K hK => ?_) (fun K hK => ?_)
              · skip
                refine goes_ Tryd.func10 (by kernel_rfl) rfl #[.int .i64 a0] (by rfl) rfl rfl (by (try simp only [List.map_toArray, List.map_cons, List.map_nil]); first | done | rfl | (simp only [List.length_drop, List.length_take]; rfl) | (simp [Act.eval, *]; done) | (simp [Act.eval, *]; unfold wrap64; omega)) ?_
                with_reducible refine (spec_SixelNumber.calls k a0 t115 _ A6.out).mono ?_
                rintro e w23 ⟨rfl, hb⟩
                refine ⟨_, rfl, ?_⟩
                have n0_ := Aside0.mk (Kd.R_below (by (with_reducible repeat (first | apply Kd.R_alloc | apply Go.Proofs.YtjicpadeplminaaDoor.Ext.R_bytes | apply Kd.R_drewN | apply Kd.R_drew)); exact HO118.out) hb)
                have n1_ := Aside0.mk (below_step (by repeat (first | (with_reducible first | exact HB.out | apply below_alloc | apply Go.Proofs.YtjicpadeplminaaDoor.Ext.below_bytes | apply pw_below_drewN | apply below_drew1) | exact HB.out)) hb)
                clear HO118
                clear HB
                have HO118 := n0_
                have HB := n1_
                clear n0_ n1_
                (try clear hb)
                (try clear hb2)
                (try clear hk)
                (try clear hi)
                refine hK.out _ _ trivial (fun hHeld => ?_)
                clear hK K
                refine norm_ (a' := ?_) ?_ ?_
                rotate_left
                · show Act.put _ (some 11) _ = _
                  simp only [Act.put, List.setIfInBounds_toArray, List.set_cons_zero, List.set_cons_succ, i64_w, i32_w]
                  rfl
                refine pure_ (i := 2) (N := some 12) (v := ?_) (a' := ?_) #[true, true, true, true, true, false, false, false] rfl rfl (any_of HT_.out (by kernel_rfl)) (fun _ _ _ h => h) (Or.inl ⟨by rfl, ?_⟩) ?_ ?_
                rotate_left
                · intro w'
                  go_simp
                  with_reducible rfl
                rotate_left
                · simp only [Act.put, List.setIfInBounds_toArray, List.set_cons_zero, List.set_cons_succ, i64_w, i32_w]
                  rfl
                refine one_ (i := 5) (N := some 15) #[true, true, true, true, true, true, false, false] rfl rfl (one_of HT_.out (by kernel_rfl)) (by decide) (fun K hK => ?_)
                have hcv24 := own_string (P := Tryd.prog) Tryd.underlying30 Tryd.underlying5 Tryd.underlying9 (Kd.own_of_R HO118.out)
                refine value_ (w1 := ?_) (v := ?_) (by rfl) rfl ?_ ?_
                rotate_left 2
                · go_simp
                  constructor
                  · rfl
                  · rfl
                clear hcv24
                refine hK.out _ _ trivial (fun hHeld => ?_)
                clear hK K
                refine norm_ (a' := ?_) ?_ ?_
                rotate_left
                · show Act.put _ (some 15) _ = _
                  simp only [Act.put, List.setIfInBounds_toArray, List.set_cons_zero, List.set_cons_succ, i64_w, i32_w]
                  rfl
                exact norm_ (by simp only [putAll, Act.put, List.setIfInBounds_toArray, List.set_cons_zero, List.set_cons_succ]) (hCont (v117) _ ⟨(by (with_reducible repeat (first | apply Kd.R_alloc | apply Go.Proofs.YtjicpadeplminaaDoor.Ext.R_bytes | apply Kd.R_drewN | apply Kd.R_drew)); exact HO118.out), (by repeat (first | (with_reducible first | exact HB.out | apply below_alloc | apply Go.Proofs.YtjicpadeplminaaDoor.Ext.below_bytes | apply pw_below_drewN | apply below_drew1) | exact HB.out))⟩)
              · skip
                have hcv23 := own_string (P := Tryd.prog) Tryd.underlying30 Tryd.underlying5 Tryd.underlying9 (Kd.own_of_R HO118.out)
                refine value_ (w1 := ?_) (v := ?_) (by rfl) rfl ?_ ?_
                rotate_left 2
                · go_simp
                  constructor
                  · rfl
                  · rfl
                clear hcv23
                refine hK.out _ _ trivial (fun hHeld => ?_)
                clear hK K
                refine norm_ (a' := ?_) ?_ ?_
                rotate_left
                · show Act.put _ (some 15) _ = _
                  simp only [Act.put, List.setIfInBounds_toArray, List.set_cons_zero, List.set_cons_succ, i64_w, i32_w]
                  rfl
                refine one_ (i := 1) (N := some 11) #[true, true, false, true, true, true, false, false] rfl rfl (one_of HT_.out (by kernel_rfl)) (by decide) (fun K hK => ?_)
                refine goes_ Tryd.func10 (by kernel_rfl) rfl #[.int .i64 a0] (by rfl) rfl rfl (by (try simp only [List.map_toArray, List.map_cons, List.map_nil]); first | done | rfl | (simp only [List.length_drop, List.length_take]; rfl) | (simp [Act.eval, *]; done) | (simp [Act.eval, *]; unfold wrap64; omega)) ?_
                with_reducible refine (spec_SixelNumber.calls k a0 t115 _ A6.out).mono ?_
                rintro e w24 ⟨rfl, hb⟩
                refine ⟨_, rfl, ?_⟩
                have n0_ := Aside0.mk (Kd.R_below (by (with_reducible repeat (first | apply Kd.R_alloc | apply Go.Proofs.YtjicpadeplminaaDoor.Ext.R_bytes | apply Kd.R_drewN | apply Kd.R_drew)); exact HO118.out) hb)
                have n1_ := Aside0.mk (below_step (by repeat (first | (with_reducible first | exact HB.out | apply below_alloc | apply Go.Proofs.YtjicpadeplminaaDoor.Ext.below_bytes | apply pw_below_drewN | apply below_drew1) | exact HB.out)) hb)
                clear HO118
                clear HB
                have HO118 := n0_
                have HB := n1_
                clear n0_ n1_
                (try clear hb)
                (try clear hb2)
                (try clear hk)
                (try clear hi)
                refine hK.out _ _ trivial (fun hHeld => ?_)
                clear hK K
                refine norm_ (a' := ?_) ?_ ?_
                rotate_left
                · show Act.put _ (some 11) _ = _
                  simp only [Act.put, List.setIfInBounds_toArray, List.set_cons_zero, List.set_cons_succ, i64_w, i32_w]
                  rfl
                refine pure_ (i := 2) (N := some 12) (v := ?_) (a' := ?_) #[true, true, true, true, true, true, false, false] rfl rfl (any_of HT_.out (by kernel_rfl)) (fun _ _ _ h => h) (Or.inl ⟨by rfl, ?_⟩) ?_ ?_
                rotate_left
                · intro w'
                  go_simp
                  with_reducible rfl
                rotate_left
                · simp only [Act.put, List.setIfInBounds_toArray, List.set_cons_zero, List.set_cons_succ, i64_w, i32_w]
                  rfl
                exact norm_ (by simp only [putAll, Act.put, List.setIfInBounds_toArray, List.set_cons_zero, List.set_cons_succ]) (hCont (v117) _ ⟨(by (with_reducible repeat (first | apply Kd.R_alloc | apply Go.Proofs.YtjicpadeplminaaDoor.Ext.R_bytes | apply Kd.R_drewN | apply Kd.R_drew)); exact HO118.out), (by repeat (first | (with_reducible first | exact HB.out | apply below_alloc | apply Go.Proofs.YtjicpadeplminaaDoor.Ext.below_bytes | apply pw_below_drewN | apply below_drew1) | exact HB.out))⟩)
          rintro v117 w25 ⟨h0_, h1_⟩
          have n0_ : Aside0 (Kd.R (Kd.int .u8) 5 w25 w.heap.size (fun _ => True) v117 y116) := ⟨h0_⟩
          have n1_ : Aside0 (Below w.heap.size w w25) := ⟨h1_⟩
          clear HB
          clear h0_ h1_
          have HO118 := n0_
          have HB := n1_
          clear n0_ n1_
          have hHeld := trivial
          refine norm_ (a' := ?_) ?_ ?_
          rotate_left
          · simp only [putAll, Act.put, List.setIfInBounds_toArray, List.set_cons_zero, List.set_cons_succ]
            rfl
          refine pure_ (i := 6) (N := some 16) (v := ?_) (a' := ?_) #[true, true, true, true, true, true, true, false] rfl rfl (any_of HT_.out (by kernel_rfl)) (fun _ _ _ h => h) (Or.inl ⟨by rfl, ?_⟩) ?_ ?_
          rotate_left
          · intro w'
            go_simp
            with_reducible rfl
          rotate_left
          · simp only [Act.put, List.setIfInBounds_toArray, List.set_cons_zero, List.set_cons_succ, i64_w, i32_w]
            rfl
          refine pure_ (i := 7) (N := some 5) (v := ?_) (a' := ?_) #[true, true, true, true, true, true, true, true] rfl rfl (any_of HT_.out (by kernel_rfl)) (fun _ _ _ h => h) (Or.inl ⟨by rfl, ?_⟩) ?_ ?_
          rotate_left
          · intro w'
            go_simp
            with_reducible rfl
          rotate_left
          · simp only [Act.put, List.setIfInBounds_toArray, List.set_cons_zero, List.set_cons_succ, i64_w, i32_w]
            rfl
          refine done_ (done_of HT_.out (by kernel_rfl)) ?_
          try go_wp2_with (first | ((with_reducible refine gate_callee (f := 9) rfl ?_); refine goesL_ (some 19) rfl rfl Tryd.func9 (by kernel_rfl) rfl #[.int .i64 a0, .int .u8 a1] rfl (by (try simp only [List.map_toArray, List.map_cons, List.map_nil]); first | done | rfl | (simp only [List.length_drop, List.length_take]; rfl) | (simp [Act.eval, *]; done) | (simp [Act.eval, *]; unfold wrap64; omega)) ?_; (with_reducible refine (impl_WriteRepeat.calls a0 a1 t119 _ ?side1 A9.out).mono ?_); (case side1 => exact HLD.out.below (by repeat (first | (with_reducible first | exact HB.out | apply below_alloc | apply Go.Proofs.YtjicpadeplminaaDoor.Ext.below_bytes | apply pw_below_drewN | apply below_drew1) | exact HB.out))); rintro e w26 ⟨rfl, hb⟩; refine ⟨_, rfl, ?_⟩; have n0_ := Aside0.mk (Kd.R_below (by (with_reducible repeat (first | apply Kd.R_alloc | apply Go.Proofs.YtjicpadeplminaaDoor.Ext.R_bytes | apply Kd.R_drewN | apply Kd.R_drew)); exact HO118.out) hb); have n1_ := Aside0.mk (below_step (by repeat (first | (with_reducible first | exact HB.out | apply below_alloc | apply Go.Proofs.YtjicpadeplminaaDoor.Ext.below_bytes | apply pw_below_drewN | apply below_drew1) | exact HB.out)) hb); clear HO118; clear HB; have HO118 := n0_; have HB := n1_; clear n0_ n1_; (try clear hb); (try clear hb2); (try clear hk); (try clear hi)))
          go_ret
          exact ⟨by first | rfl | (simp [errW_none, errW_some] <;> rfl) | (simp [*, errW_none, errW_some] <;> rfl), by repeat (first | (with_reducible first | exact HB.out | apply below_alloc | apply Go.Proofs.YtjicpadeplminaaDoor.Ext.below_bytes | apply pw_below_drewN | apply below_drew1) | exact HB.out)⟩
      · rw [if_neg c8] at H
        exact absurd H (by simp)
    · rw [if_neg c7] at H
      exact absurd H (by simp)

/-- THE ONE PURE STATEMENT of laws_FnSixelRepeat: yours. -/
def laws_FnSixelRepeat.Pure : Prop := ∀ (a0 : Int) (a1 : Int), (Lit.int .i64 a0).wf = true → (Lit.int .u8 a1).wf = true → ∃ k, laws_FnSixelRepeat.f k a0 a1 = some true
theorem laws_FnSixelRepeat.walk (P : laws_FnSixelRepeat.Pure) (a0 : Int) (a1 : Int) (w : World) (hLD : Laid w) (w0 : (Lit.int .i64 a0).wf = true) (w1 : (Lit.int .u8 a1).wf = true) :
    Calls Tryd.prog 4 #[.int .i64 a0, .int .u8 a1] w fun e w' => e = .returned (.bool true) ∧ Below w.heap.size w w' := by
  obtain ⟨k, h⟩ := P a0 a1 w0 w1
  refine (laws_FnSixelRepeat.calls k a0 a1 true w hLD h).mono ?_
  rintro e w' ⟨rfl, hd⟩
  exact ⟨rfl, hd⟩

end Go.Proofs.YtjicpadeplminaaDoor.PR
