-- Written by wip/pp.py, a program of this session, out of the translation. Not trusted: Lean checks it.
import Derived.Test.YtplmmblofhhikaaDoorPMx0
import Derived.Test.YtplmmblofhhikaaDoorPMx2
namespace Go.Proofs.YtplmmblofhhikaaDoor.PM
open Go.RowKit Go.Proofs.YtplmmblofhhikaaDoor.Or Go.Proofs.YtplmmblofhhikaaDoorW.PrintWords Go.Proofs.YtplmmblofhhikaaDoorW.PrintLast Go.Proofs.YtplmmblofhhikaaDoorW.PrintMore
attribute [local go_sem] max2_int min2_int max_two min_two max_three min_three max_four min_four   -- for this text's walks alone
attribute [local go_sem] Ext.wrap64_mod256 Ext.wrap64_mod32 Ext.i64_mod256 Ext.i64_mod32 Ext.i64_u8 Ext.w64_u8 Ext.i64_u32 Ext.w64_u32 
attribute [-simp] List.drop_one List.length_drop   -- a list that is cut keeps its form
set_option linter.unusedVariables false
set_option linter.unusedSimpArgs false

/-! ### xansi_PrimaryDeviceAttributes: function 84 -/
mutual
def xansi_PrimaryDeviceAttributes.j0 : Nat → List Int → Option (ByteArray)
  | 0, _ => none
  | k + 1, x0 => if 0 ≤ (x0.length : Int) then (if ((x0.length : Int) : Int).toNat ≤ 17592186044416 then (xansi_PrimaryDeviceAttributes.l0 k (List.replicate ((x0.length : Int) : Int).toNat (⟨#[]⟩ : ByteArray)) x0 (x0.length : Int) 0) else (none)) else (none)
def xansi_PrimaryDeviceAttributes.l0 : Nat → List ByteArray → List Int → Int → Int → Option (ByteArray)
  | 0, _, _, _, _ => none
  | k + 1, x3, x21, x22, x23 => if x23 < x22 then (if 0 ≤ x23 then (if x23 < (x21.length : Int) then ((strconv_Itoa.f (rd x21 x23)).bind fun t147 => (if x23 < (x3.length : Int) then (xansi_PrimaryDeviceAttributes.l0 k (x3.set (x23 : Int).toNat t147) x21 x22 (wrap64 (x23 + 1))) else (none))) else (none)) else (none)) else ((xansi_zzJoin.f k x3 (⟨#[59]⟩ : ByteArray)).bind fun t149 => (if 3 + t149.size ≤ 9223372036854775807 then (if 3 + t149.size + 1 ≤ 9223372036854775807 then (some (((⟨#[27, 91, 63]⟩ : ByteArray) ++ t149) ++ (⟨#[99]⟩ : ByteArray))) else (none)) else (none)))
end
def xansi_PrimaryDeviceAttributes.f (k : Nat) (l0 : List Int) : Option (ByteArray) := if (l0.length : Int) = 0 then (some (⟨#[27, 91, 99]⟩ : ByteArray)) else (if (l0.length : Int) = 1 then (if 0 < (l0.length : Int) then (if (rd l0 0) = 0 then (some (⟨#[27, 91, 48, 99]⟩ : ByteArray)) else (xansi_PrimaryDeviceAttributes.j0 k l0)) else (none)) else (xansi_PrimaryDeviceAttributes.j0 k l0))
theorem xansi_PrimaryDeviceAttributes.mono_l : ∀ k, (∀ y0, LeO (xansi_PrimaryDeviceAttributes.j0 k y0) (xansi_PrimaryDeviceAttributes.j0 (k + 1) y0)) ∧ (∀ y0 y1 y2 y3, LeO (xansi_PrimaryDeviceAttributes.l0 k y0 y1 y2 y3) (xansi_PrimaryDeviceAttributes.l0 (k + 1) y0 y1 y2 y3))
  | 0 => ⟨fun _ r h => by simp [xansi_PrimaryDeviceAttributes.j0] at h, fun _ _ _ _ r h => by simp [xansi_PrimaryDeviceAttributes.l0] at h⟩
  | k + 1 => by
    obtain ⟨ih0, ih1⟩ := xansi_PrimaryDeviceAttributes.mono_l k
    refine ⟨?_, ?_⟩
    · intro y0
      unfold xansi_PrimaryDeviceAttributes.j0
      repeat' first
      | (with_reducible exact ih0 _)
      | (with_reducible exact ih1 _ _ _ _)
      | (with_reducible exact xansi_zzJoin.mono _ _ _)
      | (with_reducible exact LeO.refl _)
      | (with_reducible exact LeO.none _)
      | (with_reducible refine LeO.ite ?_ ?_)
      | (with_reducible refine LeO.bind ?_ (fun _ => ?_))
      | exact ih0 _
      | exact ih1 _ _ _ _
      | exact xansi_zzJoin.mono _ _ _
      | exact LeO.none _
      | refine LeO.ite ?_ ?_
      | refine LeO.bind ?_ (fun _ => ?_)
    · intro y0 y1 y2 y3
      unfold xansi_PrimaryDeviceAttributes.l0
      repeat' first
      | (with_reducible exact ih0 _)
      | (with_reducible exact ih1 _ _ _ _)
      | (with_reducible exact xansi_zzJoin.mono _ _ _)
      | (with_reducible exact LeO.refl _)
      | (with_reducible exact LeO.none _)
      | (with_reducible refine LeO.ite ?_ ?_)
      | (with_reducible refine LeO.bind ?_ (fun _ => ?_))
      | exact ih0 _
      | exact ih1 _ _ _ _
      | exact xansi_zzJoin.mono _ _ _
      | exact LeO.none _
      | refine LeO.ite ?_ ?_
      | refine LeO.bind ?_ (fun _ => ?_)
theorem xansi_PrimaryDeviceAttributes.mono : ∀ a0 k, LeO (xansi_PrimaryDeviceAttributes.f k a0) (xansi_PrimaryDeviceAttributes.f (k + 1) a0) := by
  intro a0 k
  obtain ⟨ih0, ih1⟩ := xansi_PrimaryDeviceAttributes.mono_l k
  unfold xansi_PrimaryDeviceAttributes.f
  repeat' first
      | (with_reducible exact ih0 _)
      | (with_reducible exact ih1 _ _ _ _)
      | (with_reducible exact xansi_zzJoin.mono _ _ _)
      | (with_reducible exact LeO.refl _)
      | (with_reducible exact LeO.none _)
      | (with_reducible refine LeO.ite ?_ ?_)
      | (with_reducible refine LeO.bind ?_ (fun _ => ?_))
      | exact ih0 _
      | exact ih1 _ _ _ _
      | exact xansi_zzJoin.mono _ _ _
      | exact LeO.none _
      | refine LeO.ite ?_ ?_
      | refine LeO.bind ?_ (fun _ => ?_)
set_option maxHeartbeats 8000000 in
set_option maxRecDepth 100000 in
theorem xansi_PrimaryDeviceAttributes.calls (k : Nat) (A0 : Option Addr) (c0 : Nat) (l0 : List Int) (r : ByteArray) (w : World) (hr0 : Kd.C (Kd.int .i64) w A0 l0.length l0) (hc0 : l0.length ≤ c0) (hLD : Laid w) (h : xansi_PrimaryDeviceAttributes.f k l0 = some r) :
    Calls Tryd.prog 84 #[.slice A0 l0.length c0] w fun e w' => e = .returned (.string r) ∧ Below w.heap.size w w' := by
  have HLD := Aside0.mk hLD
  clear hLD
  have HR0 := Aside0.mk hr0
  have HC0 := Aside0.mk hc0
  clear hr0 hc0
  have HB := Aside0.mk (Below.refl w.heap.size w)
  have H : (if (l0.length : Int) = 0 then (some (⟨#[27, 91, 99]⟩ : ByteArray)) else (if (l0.length : Int) = 1 then (if 0 < (l0.length : Int) then (if (rd l0 0) = 0 then (some (⟨#[27, 91, 48, 99]⟩ : ByteArray)) else (xansi_PrimaryDeviceAttributes.j0 k l0)) else (none)) else (xansi_PrimaryDeviceAttributes.j0 k l0))) = some r := h
  clear h
  have HC2 := Aside0.mk H
  clear H
  go_enter Tryd.func84, Tryd.ntmps84
  go_upto_if 8 with (fail)
  go_cut [] (fun wc => ∃ (kq : Nat), Aside0 (xansi_PrimaryDeviceAttributes.j0 kq l0 = some r) ∧ Aside0 (kq ≤ k) ∧ Aside0 (Below w.heap.size w wc))
  case first =>
    have H := HC2.out
    clear HC2
    by_cases c3 : (l0.length : Int) = 0
    · rw [if_pos c3] at H
      have c3b0 : ((l0.length : Int) == 0) = true := beq_iff_eq.mpr c3
      have c3b1 : ((l0.length : Int) != 0) = false := bne_eq_false_iff_eq.mpr c3
      clear c3
      (first | rw [c3b0] | (simp only [i64_w, i32_w]; rw [c3b0]) | skip)
      obtain rfl := Option.some.inj H
      go_wp2
      go_ret
      exact ⟨by first | rfl | (simp [errW_none, errW_some] <;> rfl) | (simp [*, errW_none, errW_some] <;> rfl), by repeat (first | (with_reducible first | exact HB.out | apply below_alloc | apply Ext.below_bytes | apply pw_below_drewN | apply below_drew1) | exact HB.out)⟩
    · rw [if_neg c3] at H
      have c3b0 : ((l0.length : Int) == 0) = false := beq_eq_false_iff_ne.mpr c3
      have c3b1 : ((l0.length : Int) != 0) = true := bne_iff_ne.mpr c3
      have c3b2 : ¬ (l0 = []) := fun h_ => c3 (by rw [h_]; rfl)
      (first | rw [c3b0] | (simp only [i64_w, i32_w]; rw [c3b0]) | skip)
      by_cases c4 : (l0.length : Int) = 1
      · rw [if_pos c4] at H
        have c4b0 : ((l0.length : Int) == 1) = true := beq_iff_eq.mpr c4
        have c4b1 : ((l0.length : Int) != 1) = false := bne_eq_false_iff_eq.mpr c4
        clear c4
        by_cases c5 : 0 < (l0.length : Int)
        · rw [if_pos c5] at H
          have c5b0 : decide (0 < (l0.length : Int)) = true := decide_eq_true c5
          have c5b1 : decide (0 < l0.length) = true := decide_eq_true (by omega)
          clear c5
          by_cases c6 : (rd l0 0) = 0
          · rw [if_pos c6] at H
            have c6b0 : ((rd l0 0) == 0) = true := beq_iff_eq.mpr c6
            have c6b1 : ((rd l0 0) != 0) = false := bne_eq_false_iff_eq.mpr c6
            clear c6
            obtain rfl := Option.some.inj H
            have p142 : 0 ≤ (0 : Int) := (by omega)
            have q142 : 0 < (l0.length : Int) := of_decide_eq_true (by first | (with_reducible assumption) | assumption)
            obtain ⟨ad142, e142, hx142_0⟩ := Kd.at_int HR0.out 0 p142 q142
            cases e142
            have qi142 : (0 < l0.length) = True := eq_true (by omega)
            (try rw [show ((0 : Int)).toNat = 0 from rfl] at hx142_0)
            (try rw [Addr.add_zero'] at hx142_0)
            replace hx142_0 := (HB.out.cell (World.block_lt_of_cell? w _ hx142_0)).trans hx142_0
            replace p142 := eq_true p142
            replace q142 := eq_true q142
            go_wp2
            go_ret
            exact ⟨by first | rfl | (simp [errW_none, errW_some] <;> rfl) | (simp [*, errW_none, errW_some] <;> rfl), by repeat (first | (with_reducible first | exact HB.out | apply below_alloc | apply Ext.below_bytes | apply pw_below_drewN | apply below_drew1) | exact HB.out)⟩
          · rw [if_neg c6] at H
            have c6b0 : ((rd l0 0) == 0) = false := beq_eq_false_iff_ne.mpr c6
            have c6b1 : ((rd l0 0) != 0) = true := bne_iff_ne.mpr c6
            have H' := Aside0.mk H
            clear H
            have p142 : 0 ≤ (0 : Int) := (by omega)
            have q142 : 0 < (l0.length : Int) := of_decide_eq_true (by first | (with_reducible assumption) | assumption)
            obtain ⟨ad142, e142, hx142_0⟩ := Kd.at_int HR0.out 0 p142 q142
            cases e142
            have qi142 : (0 < l0.length) = True := eq_true (by omega)
            (try rw [show ((0 : Int)).toNat = 0 from rfl] at hx142_0)
            (try rw [Addr.add_zero'] at hx142_0)
            replace hx142_0 := (HB.out.cell (World.block_lt_of_cell? w _ hx142_0)).trans hx142_0
            replace p142 := eq_true p142
            replace q142 := eq_true q142
            go_wp2
            go_meet
            case rel => exact ⟨_, H', ⟨by first | omega | exact Nat.le_refl _⟩, ⟨by repeat (first | (with_reducible first | exact HB.out | apply below_alloc | apply Ext.below_bytes | apply pw_below_drewN | apply below_drew1) | exact HB.out)⟩⟩
        · rw [if_neg c5] at H
          exact absurd H (by simp)
      · rw [if_neg c4] at H
        have c4b0 : ((l0.length : Int) == 1) = false := beq_eq_false_iff_ne.mpr c4
        have c4b1 : ((l0.length : Int) != 1) = true := bne_iff_ne.mpr c4
        have H' := Aside0.mk H
        clear H
        go_wp2
        go_meet
        case rel => exact ⟨_, H', ⟨by first | omega | exact Nat.le_refl _⟩, ⟨by repeat (first | (with_reducible first | exact HB.out | apply below_alloc | apply Ext.below_bytes | apply pw_below_drewN | apply below_drew1) | exact HB.out)⟩⟩
  case rest =>
    clear HC2
    try clear p1
    try clear q1
    try clear hx1
    try clear qi1
    try clear p2
    try clear c3
    try clear c3b0
    try clear c3b1
    try clear c3b2
    try clear c4
    try clear c4b0
    try clear c4b1
    try clear c5
    try clear c5b0
    try clear c5b1
    try clear c6
    try clear c6b0
    try clear c6b1
    try clear hx142_0
    try clear p142
    try clear q142
    obtain ⟨kq, HA, HJ1, HB⟩ := hcut
    cases kq with
    | zero => exact absurd HA.out (by simp [xansi_PrimaryDeviceAttributes.j0])
    | succ kj1 =>
      have H := HA.out
      clear HA
      simp only [xansi_PrimaryDeviceAttributes.j0] at H
      by_cases c7 : 0 ≤ (l0.length : Int)
      · rw [if_pos c7] at H
        have c7b0 := eq_true c7
        have c7b1 : decide (0 ≤ (l0.length : Int)) = true := decide_eq_true c7
        clear c7
        by_cases c8 : ((l0.length : Int) : Int).toNat ≤ 17592186044416
        · rw [if_pos c8] at H
          have c8b0 := eq_true c8
          have c8b1 : decide (((l0.length : Int) : Int).toNat ≤ 17592186044416) = true := decide_eq_true c8
          clear c8
          obtain ⟨y143, hy143⟩ : ∃ y_ : List ByteArray, y_ = (List.replicate ((l0.length : Int) : Int).toNat (⟨#[]⟩ : ByteArray)) := ⟨_, rfl⟩
          replace H : (xansi_PrimaryDeviceAttributes.l0 kj1 y143 l0 (l0.length : Int) 0) = some r := by first | (rw [hy143]; with_reducible exact H) | (have H2_ := (Option.bind_some _ _).symm.trans H; rw [hy143]; with_reducible exact H2_) | (have H2_ := (Option.bind_some _ _).symm.trans H; with_reducible exact H2_) | with_reducible exact H | (rw [hy143]; exact H) | exact H
          have Ny143 := Aside0.mk hy143
          clear hy143
          have H' := Aside0.mk H
          clear H
          go_wp2_with (first | ((with_reducible refine gate_dst (N := 20) rfl ?_); refine Kd.R_make Kd.string _ 9 rfl (N := 20) rfl 68 _ _ rfl (l0.length : Int) rfl rfl Tryd.underlying68 (.string ⟨#[]⟩) 16 info9 rfl (by decide) (by omega) (⟨#[]⟩ : ByteArray) (ok := fun _ => True) (okp := fun _ => True) rfl (fun _ hk => hk) trivial (of_decide_eq_true (by first | (with_reducible assumption) | assumption)) (Nat.le_trans (Nat.mul_le_mul_right _ (of_decide_eq_true (by first | (with_reducible assumption) | assumption) : (l0.length : Int).toNat ≤ 17592186044416)) (by omega)) (Below.refl _ _) (Nat.le_refl _) ?_; intro v144 w9 ho10 hb hg_ hnew_; clear hg_ hnew_; (first | rw [← Ny143.out] at ho10 | (simp only [Int.reduceToNat] at ho10; rw [← Ny143.out] at ho10)); have n0_ := Aside0.mk (Kd.R_lower ho10 (below_size (by repeat (first | (with_reducible first | exact HB.out | apply below_alloc | apply Ext.below_bytes | apply pw_below_drewN | apply below_drew1) | exact HB.out)))); have n1_ := Aside0.mk (below_step (by repeat (first | (with_reducible first | exact HB.out | apply below_alloc | apply Ext.below_bytes | apply pw_below_drewN | apply below_drew1) | exact HB.out)) hb); clear HB; have HO145 := n0_; have HB := n1_; clear n0_ n1_; clear hb ho10))
          go_loopg [23] kj1 (fun kq v23 w' => ∃ (x3_2 : List ByteArray) (x23_2 : Int), v23 = .int .i64 x23_2 ∧ Aside0 (xansi_PrimaryDeviceAttributes.l0 kq x3_2 l0 (l0.length : Int) x23_2 = some r) ∧ Aside0 (kq ≤ kj1) ∧ Aside0 (Kd.R Kd.string 9 w' w.heap.size (fun _ => True) v144 x3_2) ∧ Aside0 (Below w.heap.size w w'))
          case atStart => exact ⟨(y143), (0), (by first | rfl | (simp; done) | (simp [*]; done)), H', ⟨Nat.le_refl _⟩, ⟨by (with_reducible repeat (first | apply Kd.R_alloc | apply Ext.R_bytes | apply Kd.R_drewN | apply Kd.R_drew)); exact HO145.out⟩, ⟨by repeat (first | (with_reducible first | exact HB.out | apply below_alloc | apply Ext.below_bytes | apply pw_below_drewN | apply below_drew1) | exact HB.out)⟩⟩
          case round =>
            clear H'
            try clear p1
            try clear q1
            try clear hx1
            try clear qi1
            try clear p2
            try clear c3
            try clear c3b0
            try clear c3b1
            try clear c3b2
            try clear c4
            try clear c4b0
            try clear c4b1
            try clear c5
            try clear c5b0
            try clear c5b1
            try clear c6
            try clear c6b0
            try clear c6b1
            try clear c7
            try clear c7b0
            try clear c7b1
            try clear c8
            try clear c8b0
            try clear c8b1
            try clear hx142_0
            try clear p1
            try clear p142
            try clear p2
            try clear q1
            try clear q142
            obtain ⟨x3_2, x23_2, rfl, HA, HK2, HO_3, HB⟩ := hrel
            cases gk with
            | zero => exact absurd HA.out (by simp [xansi_PrimaryDeviceAttributes.l0])
            | succ k2 =>
              have H := HA.out
              clear HA
              simp only [xansi_PrimaryDeviceAttributes.l0] at H
              by_cases c11 : x23_2 < (l0.length : Int)
              · rw [if_pos c11] at H
                have c11b0 : decide (x23_2 < (l0.length : Int)) = true := decide_eq_true c11
                clear c11
                by_cases c12 : 0 ≤ x23_2
                · rw [if_pos c12] at H
                  have c12b0 : decide (0 ≤ x23_2) = true := decide_eq_true c12
                  clear c12
                  by_cases c13 : x23_2 < (l0.length : Int)
                  · rw [if_pos c13] at H
                    have c13b0 : decide (x23_2 < (l0.length : Int)) = true := decide_eq_true c13
                    clear c13
                    replace H := Option.bind_eq_some_iff.mp H
                    obtain ⟨t147, A140, H⟩ := H
                    replace H : (if x23_2 < (x3_2.length : Int) then (xansi_PrimaryDeviceAttributes.l0 k2 (x3_2.set (x23_2 : Int).toNat t147) l0 (l0.length : Int) (wrap64 (x23_2 + 1))) else (none)) = some r := H
                    have A14 := Aside0.mk A140
                    clear A140
                    by_cases c15 : x23_2 < (x3_2.length : Int)
                    · rw [if_pos c15] at H
                      have c15b0 : decide (x23_2 < (x3_2.length : Int)) = true := decide_eq_true c15
                      clear c15
                      obtain ⟨y148, hy148⟩ : ∃ y_ : List ByteArray, y_ = (x3_2.set (x23_2 : Int).toNat t147) := ⟨_, rfl⟩
                      replace H : (xansi_PrimaryDeviceAttributes.l0 k2 y148 l0 (l0.length : Int) (wrap64 (x23_2 + 1))) = some r := by first | (rw [hy148]; with_reducible exact H) | (have H2_ := (Option.bind_some _ _).symm.trans H; rw [hy148]; with_reducible exact H2_) | (have H2_ := (Option.bind_some _ _).symm.trans H; with_reducible exact H2_) | with_reducible exact H | (rw [hy148]; exact H) | exact H
                      have Ny148 := Aside0.mk hy148
                      clear hy148
                      have H' := Aside0.mk H
                      clear H
                      have p146 : 0 ≤ (x23_2 : Int) := of_decide_eq_true (by first | (with_reducible assumption) | assumption)
                      have q146 : x23_2 < (l0.length : Int) := of_decide_eq_true (by first | (with_reducible assumption) | assumption)
                      obtain ⟨ad146, e146, hx146_0⟩ := Kd.at_int HR0.out x23_2 p146 q146
                      cases e146
                      replace hx146_0 := (HB.out.cell (World.block_lt_of_cell? w _ hx146_0)).trans hx146_0
                      replace p146 := eq_true p146
                      replace q146 := eq_true q146
                      go_wp2_with (first | ((with_reducible refine gate_callee (f := 109) rfl ?_); refine goesL_ (some 31) rfl rfl Tryd.func109 (by kernel_rfl) rfl #[.int .i64 (rd l0 x23_2)] rfl (by (try simp only [List.map_toArray, List.map_cons, List.map_nil]); first | done | rfl | (simp only [List.length_drop, List.length_take]; rfl) | (simp [Act.eval, *]; done)) ?_; (with_reducible refine (strconv_Itoa.calls (rd l0 x23_2) t147 _ ?side1 A14.out).mono ?_); (case side1 => exact HLD.out.below (by repeat (first | (with_reducible first | exact HB.out | apply below_alloc | apply Ext.below_bytes | apply pw_below_drewN | apply below_drew1) | exact HB.out))); rintro e w17 ⟨rfl, hb⟩; refine ⟨_, rfl, ?_⟩; have n0_ := Aside0.mk (Kd.R_below (by (with_reducible repeat (first | apply Kd.R_alloc | apply Ext.R_bytes | apply Kd.R_drewN | apply Kd.R_drew)); exact HO_3.out) hb); have n1_ := Aside0.mk (below_step (by repeat (first | (with_reducible first | exact HB.out | apply below_alloc | apply Ext.below_bytes | apply pw_below_drewN | apply below_drew1) | exact HB.out)) hb); clear HO_3; clear HB; have HO_3 := n0_; have HB := n1_; clear n0_ n1_; (try clear hb); (try clear hb2); (try clear hk); (try clear hi); have p16 : 0 ≤ (x23_2 : Int) := of_decide_eq_true (by first | (with_reducible assumption) | assumption); have q16 : (x23_2 : Int) < ((x3_2.length : Int) : Int) := of_decide_eq_true (by first | (with_reducible assumption) | assumption); obtain ⟨go16, co16, eo16, gb16, gl16, cl16, HG16⟩ := Kd.R_form HO_3.out (by omega); (first | cases eo16 | (injection eo16 with ea_ en_ ec_; (first | subst ea_ | (injection ea_ with ea_; subst ea_)); subst ec_; clear en_)); have GB16 := Aside0.mk gb16; have GG16 := Aside0.mk HG16; clear gb16 gl16 HG16; obtain ⟨hx16_0, hf16_0⟩ := Kd.R_celln (⟨#[]⟩ : ByteArray) HO_3.out (x23_2 : Int) p16 q16; replace p16 := eq_true p16; replace q16 := eq_true q16; obtain ⟨hy18_, hz18_⟩ := Kd.R_celln (⟨#[]⟩ : ByteArray) HO_3.out (x23_2 : Int) (of_decide_eq_true (by first | (with_reducible assumption) | assumption)) (of_decide_eq_true (by first | (with_reducible assumption) | assumption)); have HP18 := Kd.R_putg HO_3.out (x23_2 : Int) t147) | ((with_reducible refine gate_store (t := 9) (p := 32) rfl ?_); refine store_event (t := 9) (p := 32) (v := ?vo_w19) (w1 := (w17.setCell ⟨go16, (x23_2 : Int).toNat, none⟩ (.string t147))) ?hg ?ho ?hn ?hr ?_; (case ho => rfl); (case hg => rfl); (case hn => rfl); (case hr => first | (go_simp; done) | (go_simp; rfl)); intro w19 hw; have hg : w17.grownBy w19 (some go16) := (by rw [hw]; exact HP18.2); have hp_ : Kd.R Kd.string 9 w19 w.heap.size (fun _ => True) (.slice (some ⟨go16, 0, none⟩) x3_2.length co16) y148 := (by rw [hw, Ny148.out]; exact HP18.1); clear HP18; have n0_ := Aside0.mk (hp_); have n1_ := Aside0.mk ((by rw [hw]; exact below_set (HB.out) GB16.out : Below w.heap.size w w19)); clear HO_3; clear HB; have HO_3 := n0_; have HB := n1_; clear n0_ n1_; clear hg hw hp_))
                      go_roundg k2
                      case measure => have := HJ1.out; have := HK2.out; omega
                      case rel => exact ⟨(y148), (wrap64 (x23_2 + 1)), (by first | rfl | (simp; done) | (simp [*]; done)), H', ⟨by have := HJ1.out; have := HK2.out; omega⟩, ⟨by (with_reducible repeat (first | apply Kd.R_alloc | apply Ext.R_bytes | apply Kd.R_drewN | apply Kd.R_drew)); exact HO_3.out⟩, ⟨by repeat (first | (with_reducible first | exact HB.out | apply below_alloc | apply Ext.below_bytes | apply pw_below_drewN | apply below_drew1) | exact HB.out)⟩⟩
                    · rw [if_neg c15] at H
                      exact absurd H (by simp)
                  · rw [if_neg c13] at H
                    exact absurd H (by simp)
                · rw [if_neg c12] at H
                  exact absurd H (by simp)
              · rw [if_neg c11] at H
                have c11b0 : decide (x23_2 < (l0.length : Int)) = false := decide_eq_false c11
                clear c11
                replace H := Option.bind_eq_some_iff.mp H
                obtain ⟨t149, A200, H⟩ := H
                replace H : (if 3 + t149.size ≤ 9223372036854775807 then (if 3 + t149.size + 1 ≤ 9223372036854775807 then (some (((⟨#[27, 91, 63]⟩ : ByteArray) ++ t149) ++ (⟨#[99]⟩ : ByteArray))) else (none)) else (none)) = some r := H
                have A20 := Aside0.mk A200
                clear A200
                by_cases c21 : 3 + t149.size ≤ 9223372036854775807
                · rw [if_pos c21] at H
                  have c21b0 := eq_true c21
                  have c21b1 : decide (3 + t149.size ≤ 9223372036854775807) = true := decide_eq_true c21
                  try have c21b2 : (9223372036854775807 < 3 + t149.size) = False := eq_false (Nat.not_lt.2 c21)
                  by_cases c22 : 3 + t149.size + 1 ≤ 9223372036854775807
                  · rw [if_pos c22] at H
                    have c22b0 := eq_true c22
                    have c22b1 : decide (3 + t149.size + 1 ≤ 9223372036854775807) = true := decide_eq_true c22
                    try have c22b2 : (9223372036854775807 < 3 + t149.size + 1) = False := eq_false (Nat.not_lt.2 c22)
                    obtain rfl := Option.some.inj H
                    obtain ⟨Ao23, co23, eo23⟩ := Kd.R_slice HO_3.out
                    subst eo23
                    go_wp2_with (first | ((with_reducible refine gate_callee (f := 110) rfl ?_); refine goesL_ (some 35) rfl rfl Tryd.func110 (by kernel_rfl) rfl #[.slice Ao23 x3_2.length co23, .string (⟨#[59]⟩ : ByteArray)] rfl (by (try simp only [List.map_toArray, List.map_cons, List.map_nil]); first | done | rfl | (simp only [List.length_drop, List.length_take]; rfl) | (simp [Act.eval, *]; done)) ?_; (with_reducible refine (xansi_zzJoin.calls k2 _ _ x3_2 (⟨#[59]⟩ : ByteArray) t149 _ ?side1 ?side2 A20.out).mono ?_); (case side1 => repeat (first | exact (Kd.R_reads' HO_3.out).2.2 | (with_reducible refine Kd.C_alloc ?_ _) | (with_reducible refine Kd.C_drewN ?_ _) | (with_reducible refine Kd.C_drew ?_))); (case side2 => exact (Kd.R_reads' HO_3.out).2.1); rintro e w' ⟨rfl, ⟨nd, rfl⟩⟩; refine ⟨_, rfl, ?_⟩))
                    go_ret
                    exact ⟨by first | rfl | (simp [errW_none, errW_some] <;> rfl) | (simp [*, errW_none, errW_some] <;> rfl), by repeat (first | (with_reducible first | exact HB.out | apply below_alloc | apply Ext.below_bytes | apply pw_below_drewN | apply below_drew1) | exact HB.out)⟩
                  · rw [if_neg c22] at H
                    exact absurd H (by simp)
                · rw [if_neg c21] at H
                  exact absurd H (by simp)
        · rw [if_neg c8] at H
          exact absurd H (by simp)
      · rw [if_neg c7] at H
        exact absurd H (by simp)

/-! ### xansi_SecondaryDeviceAttributes: function 85 -/
def xansi_SecondaryDeviceAttributes.l0 : Nat → List ByteArray → List Int → Int → Int → Option (ByteArray)
  | 0, _, _, _, _ => none
  | k + 1, x3, x12, x13, x14 => if x14 < x13 then (if 0 ≤ x14 then (if x14 < (x12.length : Int) then ((strconv_Itoa.f (rd x12 x14)).bind fun t154 => (if x14 < (x3.length : Int) then (xansi_SecondaryDeviceAttributes.l0 k (x3.set (x14 : Int).toNat t154) x12 x13 (wrap64 (x14 + 1))) else (none))) else (none)) else (none)) else ((xansi_zzJoin.f k x3 (⟨#[59]⟩ : ByteArray)).bind fun t156 => (if 3 + t156.size ≤ 9223372036854775807 then (if 3 + t156.size + 1 ≤ 9223372036854775807 then (some (((⟨#[27, 91, 62]⟩ : ByteArray) ++ t156) ++ (⟨#[99]⟩ : ByteArray))) else (none)) else (none)))
def xansi_SecondaryDeviceAttributes.f (k : Nat) (l0 : List Int) : Option (ByteArray) := if (l0.length : Int) = 0 then (some (⟨#[27, 91, 62, 99]⟩ : ByteArray)) else (if 0 ≤ (l0.length : Int) then (if ((l0.length : Int) : Int).toNat ≤ 17592186044416 then (xansi_SecondaryDeviceAttributes.l0 k (List.replicate ((l0.length : Int) : Int).toNat (⟨#[]⟩ : ByteArray)) l0 (l0.length : Int) 0) else (none)) else (none))
theorem xansi_SecondaryDeviceAttributes.mono_l : ∀ k, (∀ y0 y1 y2 y3, LeO (xansi_SecondaryDeviceAttributes.l0 k y0 y1 y2 y3) (xansi_SecondaryDeviceAttributes.l0 (k + 1) y0 y1 y2 y3))
  | 0 => fun _ _ _ _ r h => by simp [xansi_SecondaryDeviceAttributes.l0] at h
  | k + 1 => by
    have ih0 := xansi_SecondaryDeviceAttributes.mono_l k
    · intro y0 y1 y2 y3
      unfold xansi_SecondaryDeviceAttributes.l0
      repeat' first
      | (with_reducible exact ih0 _ _ _ _)
      | (with_reducible exact xansi_zzJoin.mono _ _ _)
      | (with_reducible exact LeO.refl _)
      | (with_reducible exact LeO.none _)
      | (with_reducible refine LeO.ite ?_ ?_)
      | (with_reducible refine LeO.bind ?_ (fun _ => ?_))
      | exact ih0 _ _ _ _
      | exact xansi_zzJoin.mono _ _ _
      | exact LeO.none _
      | refine LeO.ite ?_ ?_
      | refine LeO.bind ?_ (fun _ => ?_)
theorem xansi_SecondaryDeviceAttributes.mono : ∀ a0 k, LeO (xansi_SecondaryDeviceAttributes.f k a0) (xansi_SecondaryDeviceAttributes.f (k + 1) a0) := by
  intro a0 k
  have ih0 := xansi_SecondaryDeviceAttributes.mono_l k
  unfold xansi_SecondaryDeviceAttributes.f
  repeat' first
      | (with_reducible exact ih0 _ _ _ _)
      | (with_reducible exact xansi_zzJoin.mono _ _ _)
      | (with_reducible exact LeO.refl _)
      | (with_reducible exact LeO.none _)
      | (with_reducible refine LeO.ite ?_ ?_)
      | (with_reducible refine LeO.bind ?_ (fun _ => ?_))
      | exact ih0 _ _ _ _
      | exact xansi_zzJoin.mono _ _ _
      | exact LeO.none _
      | refine LeO.ite ?_ ?_
      | refine LeO.bind ?_ (fun _ => ?_)
set_option maxHeartbeats 8000000 in
set_option maxRecDepth 100000 in
theorem xansi_SecondaryDeviceAttributes.calls (k : Nat) (A0 : Option Addr) (c0 : Nat) (l0 : List Int) (r : ByteArray) (w : World) (hr0 : Kd.C (Kd.int .i64) w A0 l0.length l0) (hc0 : l0.length ≤ c0) (hLD : Laid w) (h : xansi_SecondaryDeviceAttributes.f k l0 = some r) :
    Calls Tryd.prog 85 #[.slice A0 l0.length c0] w fun e w' => e = .returned (.string r) ∧ Below w.heap.size w w' := by
  have HLD := Aside0.mk hLD
  clear hLD
  have HR0 := Aside0.mk hr0
  have HC0 := Aside0.mk hc0
  clear hr0 hc0
  have HB := Aside0.mk (Below.refl w.heap.size w)
  have H : (if (l0.length : Int) = 0 then (some (⟨#[27, 91, 62, 99]⟩ : ByteArray)) else (if 0 ≤ (l0.length : Int) then (if ((l0.length : Int) : Int).toNat ≤ 17592186044416 then (xansi_SecondaryDeviceAttributes.l0 k (List.replicate ((l0.length : Int) : Int).toNat (⟨#[]⟩ : ByteArray)) l0 (l0.length : Int) 0) else (none)) else (none))) = some r := h
  clear h
  by_cases c2 : (l0.length : Int) = 0
  · rw [if_pos c2] at H
    have c2b0 : ((l0.length : Int) == 0) = true := beq_iff_eq.mpr c2
    have c2b1 : ((l0.length : Int) != 0) = false := bne_eq_false_iff_eq.mpr c2
    clear c2
    obtain rfl := Option.some.inj H
    go_enter Tryd.func85, Tryd.ntmps85
    go_wp2
    go_ret
    exact ⟨by first | rfl | (simp [errW_none, errW_some] <;> rfl) | (simp [*, errW_none, errW_some] <;> rfl), by repeat (first | (with_reducible first | exact HB.out | apply below_alloc | apply Ext.below_bytes | apply pw_below_drewN | apply below_drew1) | exact HB.out)⟩
  · rw [if_neg c2] at H
    have c2b0 : ((l0.length : Int) == 0) = false := beq_eq_false_iff_ne.mpr c2
    have c2b1 : ((l0.length : Int) != 0) = true := bne_iff_ne.mpr c2
    have c2b2 : ¬ (l0 = []) := fun h_ => c2 (by rw [h_]; rfl)
    by_cases c3 : 0 ≤ (l0.length : Int)
    · rw [if_pos c3] at H
      have c3b0 := eq_true c3
      have c3b1 : decide (0 ≤ (l0.length : Int)) = true := decide_eq_true c3
      clear c3
      by_cases c4 : ((l0.length : Int) : Int).toNat ≤ 17592186044416
      · rw [if_pos c4] at H
        have c4b0 := eq_true c4
        have c4b1 : decide (((l0.length : Int) : Int).toNat ≤ 17592186044416) = true := decide_eq_true c4
        clear c4
        obtain ⟨y150, hy150⟩ : ∃ y_ : List ByteArray, y_ = (List.replicate ((l0.length : Int) : Int).toNat (⟨#[]⟩ : ByteArray)) := ⟨_, rfl⟩
        replace H : (xansi_SecondaryDeviceAttributes.l0 k y150 l0 (l0.length : Int) 0) = some r := by first | (rw [hy150]; with_reducible exact H) | (have H2_ := (Option.bind_some _ _).symm.trans H; rw [hy150]; with_reducible exact H2_) | (have H2_ := (Option.bind_some _ _).symm.trans H; with_reducible exact H2_) | with_reducible exact H | (rw [hy150]; exact H) | exact H
        have Ny150 := Aside0.mk hy150
        clear hy150
        have H' := Aside0.mk H
        clear H
        go_enter Tryd.func85, Tryd.ntmps85
        go_wp2_with (first | ((with_reducible refine gate_dst (N := 11) rfl ?_); refine Kd.R_make Kd.string _ 9 rfl (N := 11) rfl 68 _ _ rfl (l0.length : Int) rfl rfl Tryd.underlying68 (.string ⟨#[]⟩) 16 info9 rfl (by decide) (by omega) (⟨#[]⟩ : ByteArray) (ok := fun _ => True) (okp := fun _ => True) rfl (fun _ hk => hk) trivial (of_decide_eq_true (by first | (with_reducible assumption) | assumption)) (Nat.le_trans (Nat.mul_le_mul_right _ (of_decide_eq_true (by first | (with_reducible assumption) | assumption) : (l0.length : Int).toNat ≤ 17592186044416)) (by omega)) (Below.refl _ _) (Nat.le_refl _) ?_; intro v151 w5 ho6 hb hg_ hnew_; clear hg_ hnew_; (first | rw [← Ny150.out] at ho6 | (simp only [Int.reduceToNat] at ho6; rw [← Ny150.out] at ho6)); have n0_ := Aside0.mk (Kd.R_lower ho6 (below_size (by repeat (first | (with_reducible first | exact HB.out | apply below_alloc | apply Ext.below_bytes | apply pw_below_drewN | apply below_drew1) | exact HB.out)))); have n1_ := Aside0.mk (below_step (by repeat (first | (with_reducible first | exact HB.out | apply below_alloc | apply Ext.below_bytes | apply pw_below_drewN | apply below_drew1) | exact HB.out)) hb); clear HB; have HO152 := n0_; have HB := n1_; clear n0_ n1_; clear hb ho6))
        go_loopg [14] k (fun kq v14 w' => ∃ (x3_1 : List ByteArray) (x14_1 : Int), v14 = .int .i64 x14_1 ∧ Aside0 (xansi_SecondaryDeviceAttributes.l0 kq x3_1 l0 (l0.length : Int) x14_1 = some r) ∧ Aside0 (kq ≤ k) ∧ Aside0 (Kd.R Kd.string 9 w' w.heap.size (fun _ => True) v151 x3_1) ∧ Aside0 (Below w.heap.size w w'))
        case atStart => exact ⟨(y150), (0), (by first | rfl | (simp; done) | (simp [*]; done)), H', ⟨Nat.le_refl _⟩, ⟨by (with_reducible repeat (first | apply Kd.R_alloc | apply Ext.R_bytes | apply Kd.R_drewN | apply Kd.R_drew)); exact HO152.out⟩, ⟨by repeat (first | (with_reducible first | exact HB.out | apply below_alloc | apply Ext.below_bytes | apply pw_below_drewN | apply below_drew1) | exact HB.out)⟩⟩
        case round =>
          clear H'
          try clear c2
          try clear c2b0
          try clear c2b1
          try clear c2b2
          try clear p2
          try clear c3
          try clear c3b0
          try clear c3b1
          try clear c4
          try clear c4b0
          try clear c4b1
          obtain ⟨x3_1, x14_1, rfl, HA, HK1, HO_3, HB⟩ := hrel
          cases gk with
          | zero => exact absurd HA.out (by simp [xansi_SecondaryDeviceAttributes.l0])
          | succ k1 =>
            have H := HA.out
            clear HA
            simp only [xansi_SecondaryDeviceAttributes.l0] at H
            by_cases c7 : x14_1 < (l0.length : Int)
            · rw [if_pos c7] at H
              have c7b0 : decide (x14_1 < (l0.length : Int)) = true := decide_eq_true c7
              clear c7
              by_cases c8 : 0 ≤ x14_1
              · rw [if_pos c8] at H
                have c8b0 : decide (0 ≤ x14_1) = true := decide_eq_true c8
                clear c8
                by_cases c9 : x14_1 < (l0.length : Int)
                · rw [if_pos c9] at H
                  have c9b0 : decide (x14_1 < (l0.length : Int)) = true := decide_eq_true c9
                  clear c9
                  replace H := Option.bind_eq_some_iff.mp H
                  obtain ⟨t154, A100, H⟩ := H
                  replace H : (if x14_1 < (x3_1.length : Int) then (xansi_SecondaryDeviceAttributes.l0 k1 (x3_1.set (x14_1 : Int).toNat t154) l0 (l0.length : Int) (wrap64 (x14_1 + 1))) else (none)) = some r := H
                  have A10 := Aside0.mk A100
                  clear A100
                  by_cases c11 : x14_1 < (x3_1.length : Int)
                  · rw [if_pos c11] at H
                    have c11b0 : decide (x14_1 < (x3_1.length : Int)) = true := decide_eq_true c11
                    clear c11
                    obtain ⟨y155, hy155⟩ : ∃ y_ : List ByteArray, y_ = (x3_1.set (x14_1 : Int).toNat t154) := ⟨_, rfl⟩
                    replace H : (xansi_SecondaryDeviceAttributes.l0 k1 y155 l0 (l0.length : Int) (wrap64 (x14_1 + 1))) = some r := by first | (rw [hy155]; with_reducible exact H) | (have H2_ := (Option.bind_some _ _).symm.trans H; rw [hy155]; with_reducible exact H2_) | (have H2_ := (Option.bind_some _ _).symm.trans H; with_reducible exact H2_) | with_reducible exact H | (rw [hy155]; exact H) | exact H
                    have Ny155 := Aside0.mk hy155
                    clear hy155
                    have H' := Aside0.mk H
                    clear H
                    have p153 : 0 ≤ (x14_1 : Int) := of_decide_eq_true (by first | (with_reducible assumption) | assumption)
                    have q153 : x14_1 < (l0.length : Int) := of_decide_eq_true (by first | (with_reducible assumption) | assumption)
                    obtain ⟨ad153, e153, hx153_0⟩ := Kd.at_int HR0.out x14_1 p153 q153
                    cases e153
                    replace hx153_0 := (HB.out.cell (World.block_lt_of_cell? w _ hx153_0)).trans hx153_0
                    replace p153 := eq_true p153
                    replace q153 := eq_true q153
                    go_wp2_with (first | ((with_reducible refine gate_callee (f := 109) rfl ?_); refine goesL_ (some 22) rfl rfl Tryd.func109 (by kernel_rfl) rfl #[.int .i64 (rd l0 x14_1)] rfl (by (try simp only [List.map_toArray, List.map_cons, List.map_nil]); first | done | rfl | (simp only [List.length_drop, List.length_take]; rfl) | (simp [Act.eval, *]; done)) ?_; (with_reducible refine (strconv_Itoa.calls (rd l0 x14_1) t154 _ ?side1 A10.out).mono ?_); (case side1 => exact HLD.out.below (by repeat (first | (with_reducible first | exact HB.out | apply below_alloc | apply Ext.below_bytes | apply pw_below_drewN | apply below_drew1) | exact HB.out))); rintro e w13 ⟨rfl, hb⟩; refine ⟨_, rfl, ?_⟩; have n0_ := Aside0.mk (Kd.R_below (by (with_reducible repeat (first | apply Kd.R_alloc | apply Ext.R_bytes | apply Kd.R_drewN | apply Kd.R_drew)); exact HO_3.out) hb); have n1_ := Aside0.mk (below_step (by repeat (first | (with_reducible first | exact HB.out | apply below_alloc | apply Ext.below_bytes | apply pw_below_drewN | apply below_drew1) | exact HB.out)) hb); clear HO_3; clear HB; have HO_3 := n0_; have HB := n1_; clear n0_ n1_; (try clear hb); (try clear hb2); (try clear hk); (try clear hi); have p12 : 0 ≤ (x14_1 : Int) := of_decide_eq_true (by first | (with_reducible assumption) | assumption); have q12 : (x14_1 : Int) < ((x3_1.length : Int) : Int) := of_decide_eq_true (by first | (with_reducible assumption) | assumption); obtain ⟨go12, co12, eo12, gb12, gl12, cl12, HG12⟩ := Kd.R_form HO_3.out (by omega); (first | cases eo12 | (injection eo12 with ea_ en_ ec_; (first | subst ea_ | (injection ea_ with ea_; subst ea_)); subst ec_; clear en_)); have GB12 := Aside0.mk gb12; have GG12 := Aside0.mk HG12; clear gb12 gl12 HG12; obtain ⟨hx12_0, hf12_0⟩ := Kd.R_celln (⟨#[]⟩ : ByteArray) HO_3.out (x14_1 : Int) p12 q12; replace p12 := eq_true p12; replace q12 := eq_true q12; obtain ⟨hy14_, hz14_⟩ := Kd.R_celln (⟨#[]⟩ : ByteArray) HO_3.out (x14_1 : Int) (of_decide_eq_true (by first | (with_reducible assumption) | assumption)) (of_decide_eq_true (by first | (with_reducible assumption) | assumption)); have HP14 := Kd.R_putg HO_3.out (x14_1 : Int) t154) | ((with_reducible refine gate_store (t := 9) (p := 23) rfl ?_); refine store_event (t := 9) (p := 23) (v := ?vo_w15) (w1 := (w13.setCell ⟨go12, (x14_1 : Int).toNat, none⟩ (.string t154))) ?hg ?ho ?hn ?hr ?_; (case ho => rfl); (case hg => rfl); (case hn => rfl); (case hr => first | (go_simp; done) | (go_simp; rfl)); intro w15 hw; have hg : w13.grownBy w15 (some go12) := (by rw [hw]; exact HP14.2); have hp_ : Kd.R Kd.string 9 w15 w.heap.size (fun _ => True) (.slice (some ⟨go12, 0, none⟩) x3_1.length co12) y155 := (by rw [hw, Ny155.out]; exact HP14.1); clear HP14; have n0_ := Aside0.mk (hp_); have n1_ := Aside0.mk ((by rw [hw]; exact below_set (HB.out) GB12.out : Below w.heap.size w w15)); clear HO_3; clear HB; have HO_3 := n0_; have HB := n1_; clear n0_ n1_; clear hg hw hp_))
                    go_roundg k1
                    case measure => have := HK1.out; omega
                    case rel => exact ⟨(y155), (wrap64 (x14_1 + 1)), (by first | rfl | (simp; done) | (simp [*]; done)), H', ⟨by have := HK1.out; omega⟩, ⟨by (with_reducible repeat (first | apply Kd.R_alloc | apply Ext.R_bytes | apply Kd.R_drewN | apply Kd.R_drew)); exact HO_3.out⟩, ⟨by repeat (first | (with_reducible first | exact HB.out | apply below_alloc | apply Ext.below_bytes | apply pw_below_drewN | apply below_drew1) | exact HB.out)⟩⟩
                  · rw [if_neg c11] at H
                    exact absurd H (by simp)
                · rw [if_neg c9] at H
                  exact absurd H (by simp)
              · rw [if_neg c8] at H
                exact absurd H (by simp)
            · rw [if_neg c7] at H
              have c7b0 : decide (x14_1 < (l0.length : Int)) = false := decide_eq_false c7
              clear c7
              replace H := Option.bind_eq_some_iff.mp H
              obtain ⟨t156, A160, H⟩ := H
              replace H : (if 3 + t156.size ≤ 9223372036854775807 then (if 3 + t156.size + 1 ≤ 9223372036854775807 then (some (((⟨#[27, 91, 62]⟩ : ByteArray) ++ t156) ++ (⟨#[99]⟩ : ByteArray))) else (none)) else (none)) = some r := H
              have A16 := Aside0.mk A160
              clear A160
              by_cases c17 : 3 + t156.size ≤ 9223372036854775807
              · rw [if_pos c17] at H
                have c17b0 := eq_true c17
                have c17b1 : decide (3 + t156.size ≤ 9223372036854775807) = true := decide_eq_true c17
                try have c17b2 : (9223372036854775807 < 3 + t156.size) = False := eq_false (Nat.not_lt.2 c17)
                by_cases c18 : 3 + t156.size + 1 ≤ 9223372036854775807
                · rw [if_pos c18] at H
                  have c18b0 := eq_true c18
                  have c18b1 : decide (3 + t156.size + 1 ≤ 9223372036854775807) = true := decide_eq_true c18
                  try have c18b2 : (9223372036854775807 < 3 + t156.size + 1) = False := eq_false (Nat.not_lt.2 c18)
                  obtain rfl := Option.some.inj H
                  obtain ⟨Ao19, co19, eo19⟩ := Kd.R_slice HO_3.out
                  subst eo19
                  go_wp2_with (first | ((with_reducible refine gate_callee (f := 110) rfl ?_); refine goesL_ (some 26) rfl rfl Tryd.func110 (by kernel_rfl) rfl #[.slice Ao19 x3_1.length co19, .string (⟨#[59]⟩ : ByteArray)] rfl (by (try simp only [List.map_toArray, List.map_cons, List.map_nil]); first | done | rfl | (simp only [List.length_drop, List.length_take]; rfl) | (simp [Act.eval, *]; done)) ?_; (with_reducible refine (xansi_zzJoin.calls k1 _ _ x3_1 (⟨#[59]⟩ : ByteArray) t156 _ ?side1 ?side2 A16.out).mono ?_); (case side1 => repeat (first | exact (Kd.R_reads' HO_3.out).2.2 | (with_reducible refine Kd.C_alloc ?_ _) | (with_reducible refine Kd.C_drewN ?_ _) | (with_reducible refine Kd.C_drew ?_))); (case side2 => exact (Kd.R_reads' HO_3.out).2.1); rintro e w' ⟨rfl, ⟨nd, rfl⟩⟩; refine ⟨_, rfl, ?_⟩))
                  go_ret
                  exact ⟨by first | rfl | (simp [errW_none, errW_some] <;> rfl) | (simp [*, errW_none, errW_some] <;> rfl), by repeat (first | (with_reducible first | exact HB.out | apply below_alloc | apply Ext.below_bytes | apply pw_below_drewN | apply below_drew1) | exact HB.out)⟩
                · rw [if_neg c18] at H
                  exact absurd H (by simp)
              · rw [if_neg c17] at H
                exact absurd H (by simp)
      · rw [if_neg c4] at H
        exact absurd H (by simp)
    · rw [if_neg c3] at H
      exact absurd H (by simp)

/-! ### xansi_CursorInformationReport: function 86 -/
def xansi_CursorInformationReport.l0 : Nat → List ByteArray → List Int → Int → Int → Option (ByteArray)
  | 0, _, _, _, _ => none
  | k + 1, x3, x6, x7, x8 => if x8 < x7 then (if 0 ≤ x8 then (if x8 < (x6.length : Int) then ((strconv_Itoa.f (rd x6 x8)).bind fun t158 => (if x3.length < 8796093022208 then (xansi_CursorInformationReport.l0 k (x3 ++ [t158]) x6 x7 (wrap64 (x8 + 1))) else (none))) else (none)) else (none)) else ((xansi_zzJoin.f k x3 (⟨#[59]⟩ : ByteArray)).bind fun t162 => (if 5 + t162.size ≤ 9223372036854775807 then (if 5 + t162.size + 2 ≤ 9223372036854775807 then (some (((⟨#[27, 80, 49, 36, 117]⟩ : ByteArray) ++ t162) ++ (⟨#[27, 92]⟩ : ByteArray))) else (none)) else (none)))
def xansi_CursorInformationReport.f (k : Nat) (l0 : List Int) : Option (ByteArray) := xansi_CursorInformationReport.l0 k ([] : List ByteArray) l0 (l0.length : Int) 0
theorem xansi_CursorInformationReport.mono_l : ∀ k, (∀ y0 y1 y2 y3, LeO (xansi_CursorInformationReport.l0 k y0 y1 y2 y3) (xansi_CursorInformationReport.l0 (k + 1) y0 y1 y2 y3))
  | 0 => fun _ _ _ _ r h => by simp [xansi_CursorInformationReport.l0] at h
  | k + 1 => by
    have ih0 := xansi_CursorInformationReport.mono_l k
    · intro y0 y1 y2 y3
      unfold xansi_CursorInformationReport.l0
      repeat' first
      | (with_reducible exact ih0 _ _ _ _)
      | (with_reducible exact xansi_zzJoin.mono _ _ _)
      | (with_reducible exact LeO.refl _)
      | (with_reducible exact LeO.none _)
      | (with_reducible refine LeO.ite ?_ ?_)
      | (with_reducible refine LeO.bind ?_ (fun _ => ?_))
      | exact ih0 _ _ _ _
      | exact xansi_zzJoin.mono _ _ _
      | exact LeO.none _
      | refine LeO.ite ?_ ?_
      | refine LeO.bind ?_ (fun _ => ?_)
theorem xansi_CursorInformationReport.mono : ∀ a0 k, LeO (xansi_CursorInformationReport.f k a0) (xansi_CursorInformationReport.f (k + 1) a0) := by
  intro a0 k
  have ih0 := xansi_CursorInformationReport.mono_l k
  unfold xansi_CursorInformationReport.f
  repeat' first
      | (with_reducible exact ih0 _ _ _ _)
      | (with_reducible exact xansi_zzJoin.mono _ _ _)
      | (with_reducible exact LeO.refl _)
      | (with_reducible exact LeO.none _)
      | (with_reducible refine LeO.ite ?_ ?_)
      | (with_reducible refine LeO.bind ?_ (fun _ => ?_))
      | exact ih0 _ _ _ _
      | exact xansi_zzJoin.mono _ _ _
      | exact LeO.none _
      | refine LeO.ite ?_ ?_
      | refine LeO.bind ?_ (fun _ => ?_)
set_option maxHeartbeats 8000000 in
set_option maxRecDepth 100000 in
theorem xansi_CursorInformationReport.calls (k : Nat) (A0 : Option Addr) (c0 : Nat) (l0 : List Int) (r : ByteArray) (w : World) (hr0 : Kd.C (Kd.int .i64) w A0 l0.length l0) (hc0 : l0.length ≤ c0) (hLD : Laid w) (h : xansi_CursorInformationReport.f k l0 = some r) :
    Calls Tryd.prog 86 #[.slice A0 l0.length c0] w fun e w' => e = .returned (.string r) ∧ Below w.heap.size w w' := by
  have HLD := Aside0.mk hLD
  clear hLD
  have HR0 := Aside0.mk hr0
  have HC0 := Aside0.mk hc0
  clear hr0 hc0
  have HB := Aside0.mk (Below.refl w.heap.size w)
  have H : (xansi_CursorInformationReport.l0 k ([] : List ByteArray) l0 (l0.length : Int) 0) = some r := h
  clear h
  have H' := Aside0.mk H
  clear H
  go_enter Tryd.func86, Tryd.ntmps86
  go_wp2
  go_loopg [3, 8] k (fun kq v3 v8 w' => ∃ (x3_1 : List ByteArray) (x8_1 : Int), v8 = .int .i64 x8_1 ∧ Aside0 (xansi_CursorInformationReport.l0 kq x3_1 l0 (l0.length : Int) x8_1 = some r) ∧ Aside0 (kq ≤ k) ∧ Aside0 (Kd.R Kd.string 9 w' w.heap.size (fun _ => True) v3 x3_1) ∧ Aside0 (Below w.heap.size w w'))
  case atStart => exact ⟨(([] : List ByteArray)), (0), (by first | rfl | (simp; done) | (simp [*]; done)), H', ⟨Nat.le_refl _⟩, ⟨by first | exact Kd.R_nil _ _ _ _ _ | exact Kd.N_nil _ _ _ _ _ | exact Kd.V_nil _ _ _ _ _ | exact Kd.Q_nil _ _ _ _ _ | exact Kd.S_nil _ _ _ _ _⟩, ⟨by repeat (first | (with_reducible first | exact HB.out | apply below_alloc | apply Ext.below_bytes | apply pw_below_drewN | apply below_drew1) | exact HB.out)⟩⟩
  case round =>
    clear H'
    obtain ⟨x3_1, x8_1, rfl, HA, HK1, HO_3, HB⟩ := hrel
    cases gk with
    | zero => exact absurd HA.out (by simp [xansi_CursorInformationReport.l0])
    | succ k1 =>
      have H := HA.out
      clear HA
      simp only [xansi_CursorInformationReport.l0] at H
      by_cases c2 : x8_1 < (l0.length : Int)
      · rw [if_pos c2] at H
        have c2b0 : decide (x8_1 < (l0.length : Int)) = true := decide_eq_true c2
        clear c2
        by_cases c3 : 0 ≤ x8_1
        · rw [if_pos c3] at H
          have c3b0 : decide (0 ≤ x8_1) = true := decide_eq_true c3
          clear c3
          by_cases c4 : x8_1 < (l0.length : Int)
          · rw [if_pos c4] at H
            have c4b0 : decide (x8_1 < (l0.length : Int)) = true := decide_eq_true c4
            clear c4
            replace H := Option.bind_eq_some_iff.mp H
            obtain ⟨t158, A50, H⟩ := H
            replace H : (if x3_1.length < 8796093022208 then (xansi_CursorInformationReport.l0 k1 (x3_1 ++ [t158]) l0 (l0.length : Int) (wrap64 (x8_1 + 1))) else (none)) = some r := H
            have A5 := Aside0.mk A50
            clear A50
            by_cases c6 : x3_1.length < 8796093022208
            · rw [if_pos c6] at H
              have LMc6 := Aside0.mk c6
              clear c6
              obtain ⟨y159, hy159⟩ : ∃ y_ : List ByteArray, y_ = (x3_1 ++ [t158]) := ⟨_, rfl⟩
              replace H : (xansi_CursorInformationReport.l0 k1 y159 l0 (l0.length : Int) (wrap64 (x8_1 + 1))) = some r := by first | (rw [hy159]; with_reducible exact H) | (have H2_ := (Option.bind_some _ _).symm.trans H; rw [hy159]; with_reducible exact H2_) | (have H2_ := (Option.bind_some _ _).symm.trans H; with_reducible exact H2_) | with_reducible exact H | (rw [hy159]; exact H) | exact H
              have Ny159 := Aside0.mk hy159
              clear hy159
              have H' := Aside0.mk H
              clear H
              have p157 : 0 ≤ (x8_1 : Int) := of_decide_eq_true (by first | (with_reducible assumption) | assumption)
              have q157 : x8_1 < (l0.length : Int) := of_decide_eq_true (by first | (with_reducible assumption) | assumption)
              obtain ⟨ad157, e157, hx157_0⟩ := Kd.at_int HR0.out x8_1 p157 q157
              cases e157
              replace hx157_0 := (HB.out.cell (World.block_lt_of_cell? w _ hx157_0)).trans hx157_0
              replace p157 := eq_true p157
              replace q157 := eq_true q157
              go_wp2_with (first | ((with_reducible refine gate_callee (f := 109) rfl ?_); refine goesL_ (some 14) rfl rfl Tryd.func109 (by kernel_rfl) rfl #[.int .i64 (rd l0 x8_1)] rfl (by (try simp only [List.map_toArray, List.map_cons, List.map_nil]); first | done | rfl | (simp only [List.length_drop, List.length_take]; rfl) | (simp [Act.eval, *]; done)) ?_; (with_reducible refine (strconv_Itoa.calls (rd l0 x8_1) t158 _ ?side1 A5.out).mono ?_); (case side1 => exact HLD.out.below (by repeat (first | (with_reducible first | exact HB.out | apply below_alloc | apply Ext.below_bytes | apply pw_below_drewN | apply below_drew1) | exact HB.out))); rintro e w7 ⟨rfl, hb⟩; refine ⟨_, rfl, ?_⟩; have n0_ := Aside0.mk (Kd.R_below (by (with_reducible repeat (first | apply Kd.R_alloc | apply Ext.R_bytes | apply Kd.R_drewN | apply Kd.R_drew)); exact HO_3.out) hb); have n1_ := Aside0.mk (below_step (by repeat (first | (with_reducible first | exact HB.out | apply below_alloc | apply Ext.below_bytes | apply pw_below_drewN | apply below_drew1) | exact HB.out)) hb); clear HO_3; clear HB; have HO_3 := n0_; have HB := n1_; clear n0_ n1_; (try clear hb); (try clear hb2); (try clear hk); (try clear hi)) | ((with_reducible refine gate_builtin (b := .append) (xs := #[.tmp 12, .tmp 15]) rfl ?_); at_builtin; refine Kd.R_append Kd.string (w0 := w) w.heap.size rfl (.tmp 12) (.tmp 15) 68 9 (.string ⟨#[]⟩) 16 rfl Tryd.underlying68 info9 rfl (by decide) (by omega) u3 x3_1 t158 [.string t158] (fun _ => True) (fun _ => False) rfl rfl ?aP (fun _ hk => hk.elim) ?aF ?aO ?aB ?aS ?aL ?_; (case aP => exact rfl); (case aB => exact (by repeat (first | (with_reducible first | exact HB.out | apply below_alloc | apply Ext.below_bytes | apply pw_below_drewN | apply below_drew1) | exact HB.out))); (case aF => exact (fun _ _ => trivial)); (case aO => exact (by (with_reducible repeat (first | apply Kd.R_alloc | apply Ext.R_bytes | apply Kd.R_drewN | apply Kd.R_drew)); exact HO_3.out)); (case aS => exact (below_size (by repeat (first | (with_reducible first | exact HB.out | apply below_alloc | apply Ext.below_bytes | apply pw_below_drewN | apply below_drew1) | exact HB.out)))); (case aL => have := LMc6.out; omega); intro v160 w8 ho hb hg hat; rw [← Ny159.out] at ho; have n0_ := Aside0.mk (hb); have n1_ := Aside0.mk (ho); clear HB; clear HO_3; have HB := n0_; have HO161 := n1_; clear n0_ n1_; clear ho hb hg hat))
              go_roundg k1
              case measure => have := HK1.out; omega
              case rel => exact ⟨(y159), (wrap64 (x8_1 + 1)), (by first | rfl | (simp; done) | (simp [*]; done)), H', ⟨by have := HK1.out; omega⟩, ⟨by (with_reducible repeat (first | apply Kd.R_alloc | apply Ext.R_bytes | apply Kd.R_drewN | apply Kd.R_drew)); exact HO161.out⟩, ⟨by repeat (first | (with_reducible first | exact HB.out | apply below_alloc | apply Ext.below_bytes | apply pw_below_drewN | apply below_drew1) | exact HB.out)⟩⟩
            · rw [if_neg c6] at H
              exact absurd H (by simp)
          · rw [if_neg c4] at H
            exact absurd H (by simp)
        · rw [if_neg c3] at H
          exact absurd H (by simp)
      · rw [if_neg c2] at H
        have c2b0 : decide (x8_1 < (l0.length : Int)) = false := decide_eq_false c2
        clear c2
        replace H := Option.bind_eq_some_iff.mp H
        obtain ⟨t162, A90, H⟩ := H
        replace H : (if 5 + t162.size ≤ 9223372036854775807 then (if 5 + t162.size + 2 ≤ 9223372036854775807 then (some (((⟨#[27, 80, 49, 36, 117]⟩ : ByteArray) ++ t162) ++ (⟨#[27, 92]⟩ : ByteArray))) else (none)) else (none)) = some r := H
        have A9 := Aside0.mk A90
        clear A90
        by_cases c10 : 5 + t162.size ≤ 9223372036854775807
        · rw [if_pos c10] at H
          have c10b0 := eq_true c10
          have c10b1 : decide (5 + t162.size ≤ 9223372036854775807) = true := decide_eq_true c10
          try have c10b2 : (9223372036854775807 < 5 + t162.size) = False := eq_false (Nat.not_lt.2 c10)
          by_cases c11 : 5 + t162.size + 2 ≤ 9223372036854775807
          · rw [if_pos c11] at H
            have c11b0 := eq_true c11
            have c11b1 : decide (5 + t162.size + 2 ≤ 9223372036854775807) = true := decide_eq_true c11
            try have c11b2 : (9223372036854775807 < 5 + t162.size + 2) = False := eq_false (Nat.not_lt.2 c11)
            obtain rfl := Option.some.inj H
            obtain ⟨Ao12, co12, eo12⟩ := Kd.R_slice HO_3.out
            subst eo12
            go_wp2_with (first | ((with_reducible refine gate_callee (f := 110) rfl ?_); refine goesL_ (some 19) rfl rfl Tryd.func110 (by kernel_rfl) rfl #[.slice Ao12 x3_1.length co12, .string (⟨#[59]⟩ : ByteArray)] rfl (by (try simp only [List.map_toArray, List.map_cons, List.map_nil]); first | done | rfl | (simp only [List.length_drop, List.length_take]; rfl) | (simp [Act.eval, *]; done)) ?_; (with_reducible refine (xansi_zzJoin.calls k1 _ _ x3_1 (⟨#[59]⟩ : ByteArray) t162 _ ?side1 ?side2 A9.out).mono ?_); (case side1 => repeat (first | exact (Kd.R_reads' HO_3.out).2.2 | (with_reducible refine Kd.C_alloc ?_ _) | (with_reducible refine Kd.C_drewN ?_ _) | (with_reducible refine Kd.C_drew ?_))); (case side2 => exact (Kd.R_reads' HO_3.out).2.1); rintro e w' ⟨rfl, ⟨nd, rfl⟩⟩; refine ⟨_, rfl, ?_⟩))
            go_ret
            exact ⟨by first | rfl | (simp [errW_none, errW_some] <;> rfl) | (simp [*, errW_none, errW_some] <;> rfl), by repeat (first | (with_reducible first | exact HB.out | apply below_alloc | apply Ext.below_bytes | apply pw_below_drewN | apply below_drew1) | exact HB.out)⟩
          · rw [if_neg c11] at H
            exact absurd H (by simp)
        · rw [if_neg c10] at H
          exact absurd H (by simp)

/-! ### xansi_TabStopReport: function 87 -/
def xansi_TabStopReport.l0 : Nat → List ByteArray → List Int → Int → Int → Option (ByteArray)
  | 0, _, _, _, _ => none
  | k + 1, x3, x6, x7, x8 => if x8 < x7 then (if 0 ≤ x8 then (if x8 < (x6.length : Int) then ((strconv_Itoa.f (rd x6 x8)).bind fun t164 => (if x3.length < 8796093022208 then (xansi_TabStopReport.l0 k (x3 ++ [t164]) x6 x7 (wrap64 (x8 + 1))) else (none))) else (none)) else (none)) else ((xansi_zzJoin.f k x3 (⟨#[47]⟩ : ByteArray)).bind fun t168 => (if 5 + t168.size ≤ 9223372036854775807 then (if 5 + t168.size + 2 ≤ 9223372036854775807 then (some (((⟨#[27, 80, 50, 36, 117]⟩ : ByteArray) ++ t168) ++ (⟨#[27, 92]⟩ : ByteArray))) else (none)) else (none)))
def xansi_TabStopReport.f (k : Nat) (l0 : List Int) : Option (ByteArray) := xansi_TabStopReport.l0 k ([] : List ByteArray) l0 (l0.length : Int) 0
theorem xansi_TabStopReport.mono_l : ∀ k, (∀ y0 y1 y2 y3, LeO (xansi_TabStopReport.l0 k y0 y1 y2 y3) (xansi_TabStopReport.l0 (k + 1) y0 y1 y2 y3))
  | 0 => fun _ _ _ _ r h => by simp [xansi_TabStopReport.l0] at h
  | k + 1 => by
    have ih0 := xansi_TabStopReport.mono_l k
    · intro y0 y1 y2 y3
      unfold xansi_TabStopReport.l0
      repeat' first
      | (with_reducible exact ih0 _ _ _ _)
      | (with_reducible exact xansi_zzJoin.mono _ _ _)
      | (with_reducible exact LeO.refl _)
      | (with_reducible exact LeO.none _)
      | (with_reducible refine LeO.ite ?_ ?_)
      | (with_reducible refine LeO.bind ?_ (fun _ => ?_))
      | exact ih0 _ _ _ _
      | exact xansi_zzJoin.mono _ _ _
      | exact LeO.none _
      | refine LeO.ite ?_ ?_
      | refine LeO.bind ?_ (fun _ => ?_)
theorem xansi_TabStopReport.mono : ∀ a0 k, LeO (xansi_TabStopReport.f k a0) (xansi_TabStopReport.f (k + 1) a0) := by
  intro a0 k
  have ih0 := xansi_TabStopReport.mono_l k
  unfold xansi_TabStopReport.f
  repeat' first
      | (with_reducible exact ih0 _ _ _ _)
      | (with_reducible exact xansi_zzJoin.mono _ _ _)
      | (with_reducible exact LeO.refl _)
      | (with_reducible exact LeO.none _)
      | (with_reducible refine LeO.ite ?_ ?_)
      | (with_reducible refine LeO.bind ?_ (fun _ => ?_))
      | exact ih0 _ _ _ _
      | exact xansi_zzJoin.mono _ _ _
      | exact LeO.none _
      | refine LeO.ite ?_ ?_
      | refine LeO.bind ?_ (fun _ => ?_)
set_option maxHeartbeats 8000000 in
set_option maxRecDepth 100000 in
theorem xansi_TabStopReport.calls (k : Nat) (A0 : Option Addr) (c0 : Nat) (l0 : List Int) (r : ByteArray) (w : World) (hr0 : Kd.C (Kd.int .i64) w A0 l0.length l0) (hc0 : l0.length ≤ c0) (hLD : Laid w) (h : xansi_TabStopReport.f k l0 = some r) :
    Calls Tryd.prog 87 #[.slice A0 l0.length c0] w fun e w' => e = .returned (.string r) ∧ Below w.heap.size w w' := by
  have HLD := Aside0.mk hLD
  clear hLD
  have HR0 := Aside0.mk hr0
  have HC0 := Aside0.mk hc0
  clear hr0 hc0
  have HB := Aside0.mk (Below.refl w.heap.size w)
  have H : (xansi_TabStopReport.l0 k ([] : List ByteArray) l0 (l0.length : Int) 0) = some r := h
  clear h
  have H' := Aside0.mk H
  clear H
  go_enter Tryd.func87, Tryd.ntmps87
  go_wp2
  go_loopg [3, 8] k (fun kq v3 v8 w' => ∃ (x3_1 : List ByteArray) (x8_1 : Int), v8 = .int .i64 x8_1 ∧ Aside0 (xansi_TabStopReport.l0 kq x3_1 l0 (l0.length : Int) x8_1 = some r) ∧ Aside0 (kq ≤ k) ∧ Aside0 (Kd.R Kd.string 9 w' w.heap.size (fun _ => True) v3 x3_1) ∧ Aside0 (Below w.heap.size w w'))
  case atStart => exact ⟨(([] : List ByteArray)), (0), (by first | rfl | (simp; done) | (simp [*]; done)), H', ⟨Nat.le_refl _⟩, ⟨by first | exact Kd.R_nil _ _ _ _ _ | exact Kd.N_nil _ _ _ _ _ | exact Kd.V_nil _ _ _ _ _ | exact Kd.Q_nil _ _ _ _ _ | exact Kd.S_nil _ _ _ _ _⟩, ⟨by repeat (first | (with_reducible first | exact HB.out | apply below_alloc | apply Ext.below_bytes | apply pw_below_drewN | apply below_drew1) | exact HB.out)⟩⟩
  case round =>
    clear H'
    obtain ⟨x3_1, x8_1, rfl, HA, HK1, HO_3, HB⟩ := hrel
    cases gk with
    | zero => exact absurd HA.out (by simp [xansi_TabStopReport.l0])
    | succ k1 =>
      have H := HA.out
      clear HA
      simp only [xansi_TabStopReport.l0] at H
      by_cases c2 : x8_1 < (l0.length : Int)
      · rw [if_pos c2] at H
        have c2b0 : decide (x8_1 < (l0.length : Int)) = true := decide_eq_true c2
        clear c2
        by_cases c3 : 0 ≤ x8_1
        · rw [if_pos c3] at H
          have c3b0 : decide (0 ≤ x8_1) = true := decide_eq_true c3
          clear c3
          by_cases c4 : x8_1 < (l0.length : Int)
          · rw [if_pos c4] at H
            have c4b0 : decide (x8_1 < (l0.length : Int)) = true := decide_eq_true c4
            clear c4
            replace H := Option.bind_eq_some_iff.mp H
            obtain ⟨t164, A50, H⟩ := H
            replace H : (if x3_1.length < 8796093022208 then (xansi_TabStopReport.l0 k1 (x3_1 ++ [t164]) l0 (l0.length : Int) (wrap64 (x8_1 + 1))) else (none)) = some r := H
            have A5 := Aside0.mk A50
            clear A50
            by_cases c6 : x3_1.length < 8796093022208
            · rw [if_pos c6] at H
              have LMc6 := Aside0.mk c6
              clear c6
              obtain ⟨y165, hy165⟩ : ∃ y_ : List ByteArray, y_ = (x3_1 ++ [t164]) := ⟨_, rfl⟩
              replace H : (xansi_TabStopReport.l0 k1 y165 l0 (l0.length : Int) (wrap64 (x8_1 + 1))) = some r := by first | (rw [hy165]; with_reducible exact H) | (have H2_ := (Option.bind_some _ _).symm.trans H; rw [hy165]; with_reducible exact H2_) | (have H2_ := (Option.bind_some _ _).symm.trans H; with_reducible exact H2_) | with_reducible exact H | (rw [hy165]; exact H) | exact H
              have Ny165 := Aside0.mk hy165
              clear hy165
              have H' := Aside0.mk H
              clear H
              have p163 : 0 ≤ (x8_1 : Int) := of_decide_eq_true (by first | (with_reducible assumption) | assumption)
              have q163 : x8_1 < (l0.length : Int) := of_decide_eq_true (by first | (with_reducible assumption) | assumption)
              obtain ⟨ad163, e163, hx163_0⟩ := Kd.at_int HR0.out x8_1 p163 q163
              cases e163
              replace hx163_0 := (HB.out.cell (World.block_lt_of_cell? w _ hx163_0)).trans hx163_0
              replace p163 := eq_true p163
              replace q163 := eq_true q163
              go_wp2_with (first | ((with_reducible refine gate_callee (f := 109) rfl ?_); refine goesL_ (some 14) rfl rfl Tryd.func109 (by kernel_rfl) rfl #[.int .i64 (rd l0 x8_1)] rfl (by (try simp only [List.map_toArray, List.map_cons, List.map_nil]); first | done | rfl | (simp only [List.length_drop, List.length_take]; rfl) | (simp [Act.eval, *]; done)) ?_; (with_reducible refine (strconv_Itoa.calls (rd l0 x8_1) t164 _ ?side1 A5.out).mono ?_); (case side1 => exact HLD.out.below (by repeat (first | (with_reducible first | exact HB.out | apply below_alloc | apply Ext.below_bytes | apply pw_below_drewN | apply below_drew1) | exact HB.out))); rintro e w7 ⟨rfl, hb⟩; refine ⟨_, rfl, ?_⟩; have n0_ := Aside0.mk (Kd.R_below (by (with_reducible repeat (first | apply Kd.R_alloc | apply Ext.R_bytes | apply Kd.R_drewN | apply Kd.R_drew)); exact HO_3.out) hb); have n1_ := Aside0.mk (below_step (by repeat (first | (with_reducible first | exact HB.out | apply below_alloc | apply Ext.below_bytes | apply pw_below_drewN | apply below_drew1) | exact HB.out)) hb); clear HO_3; clear HB; have HO_3 := n0_; have HB := n1_; clear n0_ n1_; (try clear hb); (try clear hb2); (try clear hk); (try clear hi)) | ((with_reducible refine gate_builtin (b := .append) (xs := #[.tmp 12, .tmp 15]) rfl ?_); at_builtin; refine Kd.R_append Kd.string (w0 := w) w.heap.size rfl (.tmp 12) (.tmp 15) 68 9 (.string ⟨#[]⟩) 16 rfl Tryd.underlying68 info9 rfl (by decide) (by omega) u3 x3_1 t164 [.string t164] (fun _ => True) (fun _ => False) rfl rfl ?aP (fun _ hk => hk.elim) ?aF ?aO ?aB ?aS ?aL ?_; (case aP => exact rfl); (case aB => exact (by repeat (first | (with_reducible first | exact HB.out | apply below_alloc | apply Ext.below_bytes | apply pw_below_drewN | apply below_drew1) | exact HB.out))); (case aF => exact (fun _ _ => trivial)); (case aO => exact (by (with_reducible repeat (first | apply Kd.R_alloc | apply Ext.R_bytes | apply Kd.R_drewN | apply Kd.R_drew)); exact HO_3.out)); (case aS => exact (below_size (by repeat (first | (with_reducible first | exact HB.out | apply below_alloc | apply Ext.below_bytes | apply pw_below_drewN | apply below_drew1) | exact HB.out)))); (case aL => have := LMc6.out; omega); intro v166 w8 ho hb hg hat; rw [← Ny165.out] at ho; have n0_ := Aside0.mk (hb); have n1_ := Aside0.mk (ho); clear HB; clear HO_3; have HB := n0_; have HO167 := n1_; clear n0_ n1_; clear ho hb hg hat))
              go_roundg k1
              case measure => have := HK1.out; omega
              case rel => exact ⟨(y165), (wrap64 (x8_1 + 1)), (by first | rfl | (simp; done) | (simp [*]; done)), H', ⟨by have := HK1.out; omega⟩, ⟨by (with_reducible repeat (first | apply Kd.R_alloc | apply Ext.R_bytes | apply Kd.R_drewN | apply Kd.R_drew)); exact HO167.out⟩, ⟨by repeat (first | (with_reducible first | exact HB.out | apply below_alloc | apply Ext.below_bytes | apply pw_below_drewN | apply below_drew1) | exact HB.out)⟩⟩
            · rw [if_neg c6] at H
              exact absurd H (by simp)
          · rw [if_neg c4] at H
            exact absurd H (by simp)
        · rw [if_neg c3] at H
          exact absurd H (by simp)
      · rw [if_neg c2] at H
        have c2b0 : decide (x8_1 < (l0.length : Int)) = false := decide_eq_false c2
        clear c2
        replace H := Option.bind_eq_some_iff.mp H
        obtain ⟨t168, A90, H⟩ := H
        replace H : (if 5 + t168.size ≤ 9223372036854775807 then (if 5 + t168.size + 2 ≤ 9223372036854775807 then (some (((⟨#[27, 80, 50, 36, 117]⟩ : ByteArray) ++ t168) ++ (⟨#[27, 92]⟩ : ByteArray))) else (none)) else (none)) = some r := H
        have A9 := Aside0.mk A90
        clear A90
        by_cases c10 : 5 + t168.size ≤ 9223372036854775807
        · rw [if_pos c10] at H
          have c10b0 := eq_true c10
          have c10b1 : decide (5 + t168.size ≤ 9223372036854775807) = true := decide_eq_true c10
          try have c10b2 : (9223372036854775807 < 5 + t168.size) = False := eq_false (Nat.not_lt.2 c10)
          by_cases c11 : 5 + t168.size + 2 ≤ 9223372036854775807
          · rw [if_pos c11] at H
            have c11b0 := eq_true c11
            have c11b1 : decide (5 + t168.size + 2 ≤ 9223372036854775807) = true := decide_eq_true c11
            try have c11b2 : (9223372036854775807 < 5 + t168.size + 2) = False := eq_false (Nat.not_lt.2 c11)
            obtain rfl := Option.some.inj H
            obtain ⟨Ao12, co12, eo12⟩ := Kd.R_slice HO_3.out
            subst eo12
            go_wp2_with (first | ((with_reducible refine gate_callee (f := 110) rfl ?_); refine goesL_ (some 19) rfl rfl Tryd.func110 (by kernel_rfl) rfl #[.slice Ao12 x3_1.length co12, .string (⟨#[47]⟩ : ByteArray)] rfl (by (try simp only [List.map_toArray, List.map_cons, List.map_nil]); first | done | rfl | (simp only [List.length_drop, List.length_take]; rfl) | (simp [Act.eval, *]; done)) ?_; (with_reducible refine (xansi_zzJoin.calls k1 _ _ x3_1 (⟨#[47]⟩ : ByteArray) t168 _ ?side1 ?side2 A9.out).mono ?_); (case side1 => repeat (first | exact (Kd.R_reads' HO_3.out).2.2 | (with_reducible refine Kd.C_alloc ?_ _) | (with_reducible refine Kd.C_drewN ?_ _) | (with_reducible refine Kd.C_drew ?_))); (case side2 => exact (Kd.R_reads' HO_3.out).2.1); rintro e w' ⟨rfl, ⟨nd, rfl⟩⟩; refine ⟨_, rfl, ?_⟩))
            go_ret
            exact ⟨by first | rfl | (simp [errW_none, errW_some] <;> rfl) | (simp [*, errW_none, errW_some] <;> rfl), by repeat (first | (with_reducible first | exact HB.out | apply below_alloc | apply Ext.below_bytes | apply pw_below_drewN | apply below_drew1) | exact HB.out)⟩
          · rw [if_neg c11] at H
            exact absurd H (by simp)
        · rw [if_neg c10] at H
          exact absurd H (by simp)

end Go.Proofs.YtplmmblofhhikaaDoor.PM
