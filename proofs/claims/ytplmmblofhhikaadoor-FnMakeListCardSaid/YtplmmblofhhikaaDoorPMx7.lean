-- Written by wip/pp.py, a program of this session, out of the translation. Not trusted: Lean checks it.
import Derived.Test.YtplmmblofhhikaaDoorPMx0
import Derived.Test.YtplmmblofhhikaaDoorPMx2
import Derived.Test.YtplmmblofhhikaaDoorPMx3
import Derived.Test.YtplmmblofhhikaaDoorPMx5
import Derived.Test.YtplmmblofhhikaaDoorPMx6
namespace Go.Proofs.YtplmmblofhhikaaDoor.PM
open Go.RowKit Go.Proofs.YtplmmblofhhikaaDoor.Or Go.Proofs.YtplmmblofhhikaaDoorW.PrintWords Go.Proofs.YtplmmblofhhikaaDoorW.PrintLast Go.Proofs.YtplmmblofhhikaaDoorW.PrintMore
attribute [local go_sem] max2_int min2_int max_two min_two max_three min_three max_four min_four   -- for this text's walks alone
attribute [local go_sem] Ext.wrap64_mod256 Ext.wrap64_mod32 Ext.i64_mod256 Ext.i64_mod32 Ext.i64_u8 Ext.w64_u8 Ext.i64_u32 Ext.w64_u32 
attribute [-simp] List.drop_one List.length_drop   -- a list that is cut keeps its form
set_option linter.unusedVariables false
set_option linter.unusedSimpArgs false

/-! ### impl_MakeList: function 22 -/
mutual
def impl_MakeList.j0 : Nat → Int → List Int → Bool → Option (ByteArray)
  | 0, _, _, _ => none
  | k + 1, x0, x5, x33 => if x33 = true then (if 0 < (x5.length : Int) then (if 1 ≤ (x5.length : Int) then ((xansi_WindowOp.f k (rd x5 0) (x5.drop 1)).bind fun t234 => (some t234)) else (none)) else (none)) else (if x0 = 6 then (impl_MakeList.j1 k x0 x5 (decide ((x5.length : Int) > 0))) else (impl_MakeList.j1 k x0 x5 false))
def impl_MakeList.j1 : Nat → Int → List Int → Bool → Option (ByteArray)
  | 0, _, _, _ => none
  | k + 1, x0, x5, x47 => if x47 = true then (if 0 < (x5.length : Int) then (if 1 ≤ (x5.length : Int) then ((xansi_KeyModifierOptions.f k (rd x5 0) (x5.drop 1)).bind fun t240 => (some t240)) else (none)) else (none)) else (if x0 = 7 then (impl_MakeList.j2 k x0 x5 ((x5.length : Int) == 3)) else (impl_MakeList.j2 k x0 x5 false))
def impl_MakeList.j2 : Nat → Int → List Int → Bool → Option (ByteArray)
  | 0, _, _, _ => none
  | k + 1, x0, x5, x61 => if x61 = true then (if 0 < (x5.length : Int) then (if 1 < (x5.length : Int) then (if 2 < (x5.length : Int) then ((xansi_ExtendedCursorPositionReport.f k (rd x5 0) (rd x5 1) (rd x5 2)).bind fun t244 => (some t244)) else (none)) else (none)) else (none)) else (if x0 = 8 then (if (x5.length : Int) = 4 then (if 0 < (x5.length : Int) then (if 1 < (x5.length : Int) then (if 2 < (x5.length : Int) then (if 3 < (x5.length : Int) then ((xansi_InBandResize.f k (rd x5 0) (rd x5 1) (rd x5 2) (rd x5 3)).bind fun t249 => (some t249)) else (none)) else (none)) else (none)) else (none)) else (some (⟨#[]⟩ : ByteArray))) else (some (⟨#[]⟩ : ByteArray)))
end
def impl_MakeList.f (k : Nat) (a0 : Int) (l1 : List Int) : Option (ByteArray) := (impl_count.f k l1).bind fun t221 => (if a0 = 0 then ((xansi_PrimaryDeviceAttributes.f k t221).bind fun t224 => (some t224)) else (if a0 = 1 then ((xansi_SecondaryDeviceAttributes.f k t221).bind fun t225 => (some t225)) else (if a0 = 2 then ((xansi_CursorInformationReport.f k t221).bind fun t226 => (some t226)) else (if a0 = 3 then ((xansi_TabStopReport.f k t221).bind fun t227 => (some t227)) else (if a0 = 4 then ((xansi_SelectGraphicRendition.f k t221).bind fun t228 => (some t228)) else (if a0 = 5 then (impl_MakeList.j0 k a0 t221 (decide ((t221.length : Int) > 0))) else (impl_MakeList.j0 k a0 t221 false)))))))
theorem impl_MakeList.mono_l : ∀ k, (∀ y0 y1 y2, LeO (impl_MakeList.j0 k y0 y1 y2) (impl_MakeList.j0 (k + 1) y0 y1 y2)) ∧ (∀ y0 y1 y2, LeO (impl_MakeList.j1 k y0 y1 y2) (impl_MakeList.j1 (k + 1) y0 y1 y2)) ∧ (∀ y0 y1 y2, LeO (impl_MakeList.j2 k y0 y1 y2) (impl_MakeList.j2 (k + 1) y0 y1 y2))
  | 0 => ⟨fun _ _ _ r h => by simp [impl_MakeList.j0] at h, fun _ _ _ r h => by simp [impl_MakeList.j1] at h, fun _ _ _ r h => by simp [impl_MakeList.j2] at h⟩
  | k + 1 => by
    obtain ⟨ih0, ih1, ih2⟩ := impl_MakeList.mono_l k
    refine ⟨?_, ?_, ?_⟩
    · intro y0 y1 y2
      unfold impl_MakeList.j0
      repeat' first
      | (with_reducible exact ih0 _ _ _)
      | (with_reducible exact ih1 _ _ _)
      | (with_reducible exact ih2 _ _ _)
      | (with_reducible exact impl_count.mono _ _)
      | (with_reducible exact xansi_CursorInformationReport.mono _ _)
      | (with_reducible exact xansi_ExtendedCursorPositionReport.mono _ _ _ _)
      | (with_reducible exact xansi_InBandResize.mono _ _ _ _ _)
      | (with_reducible exact xansi_KeyModifierOptions.mono _ _ _)
      | (with_reducible exact xansi_PrimaryDeviceAttributes.mono _ _)
      | (with_reducible exact xansi_SecondaryDeviceAttributes.mono _ _)
      | (with_reducible exact xansi_SelectGraphicRendition.mono _ _)
      | (with_reducible exact xansi_TabStopReport.mono _ _)
      | (with_reducible exact xansi_WindowOp.mono _ _ _)
      | (with_reducible exact LeO.refl _)
      | (with_reducible exact LeO.none _)
      | (with_reducible refine LeO.ite ?_ ?_)
      | (with_reducible refine LeO.bind ?_ (fun _ => ?_))
      | exact ih0 _ _ _
      | exact ih1 _ _ _
      | exact ih2 _ _ _
      | exact impl_count.mono _ _
      | exact xansi_CursorInformationReport.mono _ _
      | exact xansi_ExtendedCursorPositionReport.mono _ _ _ _
      | exact xansi_InBandResize.mono _ _ _ _ _
      | exact xansi_KeyModifierOptions.mono _ _ _
      | exact xansi_PrimaryDeviceAttributes.mono _ _
      | exact xansi_SecondaryDeviceAttributes.mono _ _
      | exact xansi_SelectGraphicRendition.mono _ _
      | exact xansi_TabStopReport.mono _ _
      | exact xansi_WindowOp.mono _ _ _
      | exact LeO.none _
      | refine LeO.ite ?_ ?_
      | refine LeO.bind ?_ (fun _ => ?_)
    · intro y0 y1 y2
      unfold impl_MakeList.j1
      repeat' first
      | (with_reducible exact ih0 _ _ _)
      | (with_reducible exact ih1 _ _ _)
      | (with_reducible exact ih2 _ _ _)
      | (with_reducible exact impl_count.mono _ _)
      | (with_reducible exact xansi_CursorInformationReport.mono _ _)
      | (with_reducible exact xansi_ExtendedCursorPositionReport.mono _ _ _ _)
      | (with_reducible exact xansi_InBandResize.mono _ _ _ _ _)
      | (with_reducible exact xansi_KeyModifierOptions.mono _ _ _)
      | (with_reducible exact xansi_PrimaryDeviceAttributes.mono _ _)
      | (with_reducible exact xansi_SecondaryDeviceAttributes.mono _ _)
      | (with_reducible exact xansi_SelectGraphicRendition.mono _ _)
      | (with_reducible exact xansi_TabStopReport.mono _ _)
      | (with_reducible exact xansi_WindowOp.mono _ _ _)
      | (with_reducible exact LeO.refl _)
      | (with_reducible exact LeO.none _)
      | (with_reducible refine LeO.ite ?_ ?_)
      | (with_reducible refine LeO.bind ?_ (fun _ => ?_))
      | exact ih0 _ _ _
      | exact ih1 _ _ _
      | exact ih2 _ _ _
      | exact impl_count.mono _ _
      | exact xansi_CursorInformationReport.mono _ _
      | exact xansi_ExtendedCursorPositionReport.mono _ _ _ _
      | exact xansi_InBandResize.mono _ _ _ _ _
      | exact xansi_KeyModifierOptions.mono _ _ _
      | exact xansi_PrimaryDeviceAttributes.mono _ _
      | exact xansi_SecondaryDeviceAttributes.mono _ _
      | exact xansi_SelectGraphicRendition.mono _ _
      | exact xansi_TabStopReport.mono _ _
      | exact xansi_WindowOp.mono _ _ _
      | exact LeO.none _
      | refine LeO.ite ?_ ?_
      | refine LeO.bind ?_ (fun _ => ?_)
    · intro y0 y1 y2
      unfold impl_MakeList.j2
      repeat' first
      | (with_reducible exact ih0 _ _ _)
      | (with_reducible exact ih1 _ _ _)
      | (with_reducible exact ih2 _ _ _)
      | (with_reducible exact impl_count.mono _ _)
      | (with_reducible exact xansi_CursorInformationReport.mono _ _)
      | (with_reducible exact xansi_ExtendedCursorPositionReport.mono _ _ _ _)
      | (with_reducible exact xansi_InBandResize.mono _ _ _ _ _)
      | (with_reducible exact xansi_KeyModifierOptions.mono _ _ _)
      | (with_reducible exact xansi_PrimaryDeviceAttributes.mono _ _)
      | (with_reducible exact xansi_SecondaryDeviceAttributes.mono _ _)
      | (with_reducible exact xansi_SelectGraphicRendition.mono _ _)
      | (with_reducible exact xansi_TabStopReport.mono _ _)
      | (with_reducible exact xansi_WindowOp.mono _ _ _)
      | (with_reducible exact LeO.refl _)
      | (with_reducible exact LeO.none _)
      | (with_reducible refine LeO.ite ?_ ?_)
      | (with_reducible refine LeO.bind ?_ (fun _ => ?_))
      | exact ih0 _ _ _
      | exact ih1 _ _ _
      | exact ih2 _ _ _
      | exact impl_count.mono _ _
      | exact xansi_CursorInformationReport.mono _ _
      | exact xansi_ExtendedCursorPositionReport.mono _ _ _ _
      | exact xansi_InBandResize.mono _ _ _ _ _
      | exact xansi_KeyModifierOptions.mono _ _ _
      | exact xansi_PrimaryDeviceAttributes.mono _ _
      | exact xansi_SecondaryDeviceAttributes.mono _ _
      | exact xansi_SelectGraphicRendition.mono _ _
      | exact xansi_TabStopReport.mono _ _
      | exact xansi_WindowOp.mono _ _ _
      | exact LeO.none _
      | refine LeO.ite ?_ ?_
      | refine LeO.bind ?_ (fun _ => ?_)
theorem impl_MakeList.mono : ∀ a0 a1 k, LeO (impl_MakeList.f k a0 a1) (impl_MakeList.f (k + 1) a0 a1) := by
  intro a0 a1 k
  obtain ⟨ih0, ih1, ih2⟩ := impl_MakeList.mono_l k
  unfold impl_MakeList.f
  repeat' first
      | (with_reducible exact ih0 _ _ _)
      | (with_reducible exact ih1 _ _ _)
      | (with_reducible exact ih2 _ _ _)
      | (with_reducible exact impl_count.mono _ _)
      | (with_reducible exact xansi_CursorInformationReport.mono _ _)
      | (with_reducible exact xansi_ExtendedCursorPositionReport.mono _ _ _ _)
      | (with_reducible exact xansi_InBandResize.mono _ _ _ _ _)
      | (with_reducible exact xansi_KeyModifierOptions.mono _ _ _)
      | (with_reducible exact xansi_PrimaryDeviceAttributes.mono _ _)
      | (with_reducible exact xansi_SecondaryDeviceAttributes.mono _ _)
      | (with_reducible exact xansi_SelectGraphicRendition.mono _ _)
      | (with_reducible exact xansi_TabStopReport.mono _ _)
      | (with_reducible exact xansi_WindowOp.mono _ _ _)
      | (with_reducible exact LeO.refl _)
      | (with_reducible exact LeO.none _)
      | (with_reducible refine LeO.ite ?_ ?_)
      | (with_reducible refine LeO.bind ?_ (fun _ => ?_))
      | exact ih0 _ _ _
      | exact ih1 _ _ _
      | exact ih2 _ _ _
      | exact impl_count.mono _ _
      | exact xansi_CursorInformationReport.mono _ _
      | exact xansi_ExtendedCursorPositionReport.mono _ _ _ _
      | exact xansi_InBandResize.mono _ _ _ _ _
      | exact xansi_KeyModifierOptions.mono _ _ _
      | exact xansi_PrimaryDeviceAttributes.mono _ _
      | exact xansi_SecondaryDeviceAttributes.mono _ _
      | exact xansi_SelectGraphicRendition.mono _ _
      | exact xansi_TabStopReport.mono _ _
      | exact xansi_WindowOp.mono _ _ _
      | exact LeO.none _
      | refine LeO.ite ?_ ?_
      | refine LeO.bind ?_ (fun _ => ?_)
def impl_MakeList.T17 : Bool × List (List Nat × List Nat) := (true, [([], []), ([0], [0]), ([1], [1]), ([], []), ([3], [3]), ([4], [4]), ([], []), ([6], [6]), ([7], [7]), ([2, 5, 8], [2, 5, 8]), ([9, 9, 0, 1, 2, 3, 4, 5, 6, 7, 8, 9], [9])])
def impl_MakeList.B17 : List Nat := [0, 1, 3, 0, 8, 24, 0, 64, 192, 511, 1023]
theorem impl_MakeList.tab17 : rtab .any (opsOf Tryd.f22 17) = impl_MakeList.T17 := by kernel_rfl
theorem impl_MakeList.bits17 : waitsOk impl_MakeList.T17.2 impl_MakeList.B17 = true := by kernel_rfl
def impl_MakeList.T19 : Bool × List (List Nat × List Nat) := (true, [([], []), ([0], [0]), ([1], [1]), ([], []), ([3], [3]), ([4], [4]), ([], []), ([6], [6]), ([7], [7]), ([], []), ([9], [9]), ([10], [10]), ([2, 5, 8, 11], [2, 5, 8, 11]), ([12, 12, 0, 1, 2, 3, 4, 5, 6, 7, 8, 9, 10, 11, 12], [12])])
def impl_MakeList.B19 : List Nat := [0, 1, 3, 0, 8, 24, 0, 64, 192, 0, 512, 1536, 4095, 8191]
theorem impl_MakeList.tab19 : rtab .any (opsOf Tryd.f22 19) = impl_MakeList.T19 := by kernel_rfl
theorem impl_MakeList.bits19 : waitsOk impl_MakeList.T19.2 impl_MakeList.B19 = true := by kernel_rfl
set_option maxHeartbeats 8000000 in
set_option maxRecDepth 100000 in
theorem impl_MakeList.calls (k : Nat) (a0 : Int) (A1 : Option Addr) (c1 : Nat) (l1 : List Int) (r : ByteArray) (w : World) (hr1 : Kd.C (Kd.int .i64) w A1 l1.length l1) (hc1 : l1.length ≤ c1) (hLD : Laid w) (h : impl_MakeList.f k a0 l1 = some r) :
    Calls Tryd.prog 22 #[.int .i64 a0, .slice A1 l1.length c1] w fun e w' => e = .returned (.string r) ∧ Below w.heap.size w w' := by
  have HLD := Aside0.mk hLD
  clear hLD
  have HR1 := Aside0.mk hr1
  have HC1 := Aside0.mk hc1
  clear hr1 hc1
  have HB := Aside0.mk (Below.refl w.heap.size w)
  have H : ((impl_count.f k l1).bind fun t221 => (if a0 = 0 then ((xansi_PrimaryDeviceAttributes.f k t221).bind fun t224 => (some t224)) else (if a0 = 1 then ((xansi_SecondaryDeviceAttributes.f k t221).bind fun t225 => (some t225)) else (if a0 = 2 then ((xansi_CursorInformationReport.f k t221).bind fun t226 => (some t226)) else (if a0 = 3 then ((xansi_TabStopReport.f k t221).bind fun t227 => (some t227)) else (if a0 = 4 then ((xansi_SelectGraphicRendition.f k t221).bind fun t228 => (some t228)) else (if a0 = 5 then (impl_MakeList.j0 k a0 t221 (decide ((t221.length : Int) > 0))) else (impl_MakeList.j0 k a0 t221 false)))))))) = some r := h
  clear h
  replace H := Option.bind_eq_some_iff.mp H
  obtain ⟨t221, A30, H⟩ := H
  replace H : (if a0 = 0 then ((xansi_PrimaryDeviceAttributes.f k t221).bind fun t224 => (some t224)) else (if a0 = 1 then ((xansi_SecondaryDeviceAttributes.f k t221).bind fun t225 => (some t225)) else (if a0 = 2 then ((xansi_CursorInformationReport.f k t221).bind fun t226 => (some t226)) else (if a0 = 3 then ((xansi_TabStopReport.f k t221).bind fun t227 => (some t227)) else (if a0 = 4 then ((xansi_SelectGraphicRendition.f k t221).bind fun t228 => (some t228)) else (if a0 = 5 then (impl_MakeList.j0 k a0 t221 (decide ((t221.length : Int) > 0))) else (impl_MakeList.j0 k a0 t221 false))))))) = some r := H
  have A3 := Aside0.mk A30
  clear A30
  by_cases c4 : a0 = 0
  · rw [if_pos c4] at H
    have c4b0 : (a0 == 0) = true := beq_iff_eq.mpr c4
    have c4b1 : (a0 != 0) = false := bne_eq_false_iff_eq.mpr c4
    clear c4
    replace H := Option.bind_eq_some_iff.mp H
    obtain ⟨t224, A50, H⟩ := H
    replace H : (some t224) = some r := H
    have A5 := Aside0.mk A50
    clear A50
    obtain rfl := Option.some.inj H
    go_enter Tryd.func22, Tryd.ntmps22
    go_wp2_with (first | ((with_reducible refine gate_callee (f := 83) rfl ?_); refine goesL_ (some 7) rfl rfl Tryd.func83 (by kernel_rfl) rfl #[.slice A1 l1.length c1] rfl (by (try simp only [List.map_toArray, List.map_cons, List.map_nil]); first | done | rfl | (simp only [List.length_drop, List.length_take]; rfl) | (simp [Act.eval, *]; done)) ?_; (with_reducible refine (impl_count.calls k _ _ l1 t221 _ ?side1 ?side2 A3.out).mono ?_); (case side1 => repeat (first | exact HR1.out | (with_reducible refine Kd.C_alloc ?_ _) | (with_reducible refine Kd.C_drewN ?_ _) | (with_reducible refine Kd.C_drew ?_))); (case side2 => exact HC1.out); rintro e w6 ⟨v222, rfl, ho0, hb⟩; refine ⟨_, rfl, ?_⟩; have n0_ := Aside0.mk (Kd.R_lower ho0 (below_size (by repeat (first | (with_reducible first | exact HB.out | apply below_alloc | apply Ext.below_bytes | apply pw_below_drewN | apply below_drew1) | exact HB.out)))); have n1_ := Aside0.mk (below_step (by repeat (first | (with_reducible first | exact HB.out | apply below_alloc | apply Ext.below_bytes | apply pw_below_drewN | apply below_drew1) | exact HB.out)) hb); clear HB; have HO223 := n0_; have HB := n1_; clear n0_ n1_; (try clear hb); (try clear hb2); (try clear hk); (try clear hi); (try clear ho0); obtain ⟨Ao7, co7, eo7⟩ := Kd.R_slice HO223.out; subst eo7) | ((with_reducible refine gate_callee (f := 84) rfl ?_); refine goesL_ (some 12) rfl rfl Tryd.func84 (by kernel_rfl) rfl #[.slice Ao7 t221.length co7] rfl (by (try simp only [List.map_toArray, List.map_cons, List.map_nil]); first | done | rfl | (simp only [List.length_drop, List.length_take]; rfl) | (simp [Act.eval, *]; done)) ?_; (with_reducible refine (xansi_PrimaryDeviceAttributes.calls k _ _ t221 t224 _ ?side1 ?side2 ?side3 A5.out).mono ?_); (case side1 => repeat (first | exact (Kd.R_reads' HO223.out).2.2 | (with_reducible refine Kd.C_alloc ?_ _) | (with_reducible refine Kd.C_drewN ?_ _) | (with_reducible refine Kd.C_drew ?_))); (case side2 => exact (Kd.R_reads' HO223.out).2.1); (case side3 => exact HLD.out.below (by repeat (first | (with_reducible first | exact HB.out | apply below_alloc | apply Ext.below_bytes | apply pw_below_drewN | apply below_drew1) | exact HB.out))); rintro e w8 ⟨rfl, hb⟩; refine ⟨_, rfl, ?_⟩; have n0_ := Aside0.mk (Kd.R_below (by (with_reducible repeat (first | apply Kd.R_alloc | apply Ext.R_bytes | apply Kd.R_drewN | apply Kd.R_drew)); exact HO223.out) hb); have n1_ := Aside0.mk (below_step (by repeat (first | (with_reducible first | exact HB.out | apply below_alloc | apply Ext.below_bytes | apply pw_below_drewN | apply below_drew1) | exact HB.out)) hb); clear HO223; clear HB; have HO223 := n0_; have HB := n1_; clear n0_ n1_; (try clear hb); (try clear hb2); (try clear hk); (try clear hi)))
    go_ret
    exact ⟨by first | rfl | (simp [errW_none, errW_some] <;> rfl) | (simp [*, errW_none, errW_some] <;> rfl), by repeat (first | (with_reducible first | exact HB.out | apply below_alloc | apply Ext.below_bytes | apply pw_below_drewN | apply below_drew1) | exact HB.out)⟩
  · rw [if_neg c4] at H
    have c4b0 : (a0 == 0) = false := beq_eq_false_iff_ne.mpr c4
    have c4b1 : (a0 != 0) = true := bne_iff_ne.mpr c4
    by_cases c9 : a0 = 1
    · rw [if_pos c9] at H
      have c9b0 : (a0 == 1) = true := beq_iff_eq.mpr c9
      have c9b1 : (a0 != 1) = false := bne_eq_false_iff_eq.mpr c9
      clear c9
      replace H := Option.bind_eq_some_iff.mp H
      obtain ⟨t225, A100, H⟩ := H
      replace H : (some t225) = some r := H
      have A10 := Aside0.mk A100
      clear A100
      obtain rfl := Option.some.inj H
      go_enter Tryd.func22, Tryd.ntmps22
      go_wp2_with (first | ((with_reducible refine gate_callee (f := 83) rfl ?_); refine goesL_ (some 7) rfl rfl Tryd.func83 (by kernel_rfl) rfl #[.slice A1 l1.length c1] rfl (by (try simp only [List.map_toArray, List.map_cons, List.map_nil]); first | done | rfl | (simp only [List.length_drop, List.length_take]; rfl) | (simp [Act.eval, *]; done)) ?_; (with_reducible refine (impl_count.calls k _ _ l1 t221 _ ?side1 ?side2 A3.out).mono ?_); (case side1 => repeat (first | exact HR1.out | (with_reducible refine Kd.C_alloc ?_ _) | (with_reducible refine Kd.C_drewN ?_ _) | (with_reducible refine Kd.C_drew ?_))); (case side2 => exact HC1.out); rintro e w11 ⟨v222, rfl, ho0, hb⟩; refine ⟨_, rfl, ?_⟩; have n0_ := Aside0.mk (Kd.R_lower ho0 (below_size (by repeat (first | (with_reducible first | exact HB.out | apply below_alloc | apply Ext.below_bytes | apply pw_below_drewN | apply below_drew1) | exact HB.out)))); have n1_ := Aside0.mk (below_step (by repeat (first | (with_reducible first | exact HB.out | apply below_alloc | apply Ext.below_bytes | apply pw_below_drewN | apply below_drew1) | exact HB.out)) hb); clear HB; have HO223 := n0_; have HB := n1_; clear n0_ n1_; (try clear hb); (try clear hb2); (try clear hk); (try clear hi); (try clear ho0); obtain ⟨Ao12, co12, eo12⟩ := Kd.R_slice HO223.out; subst eo12) | ((with_reducible refine gate_callee (f := 85) rfl ?_); refine goesL_ (some 17) rfl rfl Tryd.func85 (by kernel_rfl) rfl #[.slice Ao12 t221.length co12] rfl (by (try simp only [List.map_toArray, List.map_cons, List.map_nil]); first | done | rfl | (simp only [List.length_drop, List.length_take]; rfl) | (simp [Act.eval, *]; done)) ?_; (with_reducible refine (xansi_SecondaryDeviceAttributes.calls k _ _ t221 t225 _ ?side1 ?side2 ?side3 A10.out).mono ?_); (case side1 => repeat (first | exact (Kd.R_reads' HO223.out).2.2 | (with_reducible refine Kd.C_alloc ?_ _) | (with_reducible refine Kd.C_drewN ?_ _) | (with_reducible refine Kd.C_drew ?_))); (case side2 => exact (Kd.R_reads' HO223.out).2.1); (case side3 => exact HLD.out.below (by repeat (first | (with_reducible first | exact HB.out | apply below_alloc | apply Ext.below_bytes | apply pw_below_drewN | apply below_drew1) | exact HB.out))); rintro e w13 ⟨rfl, hb⟩; refine ⟨_, rfl, ?_⟩; have n0_ := Aside0.mk (Kd.R_below (by (with_reducible repeat (first | apply Kd.R_alloc | apply Ext.R_bytes | apply Kd.R_drewN | apply Kd.R_drew)); exact HO223.out) hb); have n1_ := Aside0.mk (below_step (by repeat (first | (with_reducible first | exact HB.out | apply below_alloc | apply Ext.below_bytes | apply pw_below_drewN | apply below_drew1) | exact HB.out)) hb); clear HO223; clear HB; have HO223 := n0_; have HB := n1_; clear n0_ n1_; (try clear hb); (try clear hb2); (try clear hk); (try clear hi)))
      go_ret
      exact ⟨by first | rfl | (simp [errW_none, errW_some] <;> rfl) | (simp [*, errW_none, errW_some] <;> rfl), by repeat (first | (with_reducible first | exact HB.out | apply below_alloc | apply Ext.below_bytes | apply pw_below_drewN | apply below_drew1) | exact HB.out)⟩
    · rw [if_neg c9] at H
      have c9b0 : (a0 == 1) = false := beq_eq_false_iff_ne.mpr c9
      have c9b1 : (a0 != 1) = true := bne_iff_ne.mpr c9
      by_cases c14 : a0 = 2
      · rw [if_pos c14] at H
        have c14b0 : (a0 == 2) = true := beq_iff_eq.mpr c14
        have c14b1 : (a0 != 2) = false := bne_eq_false_iff_eq.mpr c14
        clear c14
        replace H := Option.bind_eq_some_iff.mp H
        obtain ⟨t226, A150, H⟩ := H
        replace H : (some t226) = some r := H
        have A15 := Aside0.mk A150
        clear A150
        obtain rfl := Option.some.inj H
        go_enter Tryd.func22, Tryd.ntmps22
        go_wp2_with (first | ((with_reducible refine gate_callee (f := 83) rfl ?_); refine goesL_ (some 7) rfl rfl Tryd.func83 (by kernel_rfl) rfl #[.slice A1 l1.length c1] rfl (by (try simp only [List.map_toArray, List.map_cons, List.map_nil]); first | done | rfl | (simp only [List.length_drop, List.length_take]; rfl) | (simp [Act.eval, *]; done)) ?_; (with_reducible refine (impl_count.calls k _ _ l1 t221 _ ?side1 ?side2 A3.out).mono ?_); (case side1 => repeat (first | exact HR1.out | (with_reducible refine Kd.C_alloc ?_ _) | (with_reducible refine Kd.C_drewN ?_ _) | (with_reducible refine Kd.C_drew ?_))); (case side2 => exact HC1.out); rintro e w16 ⟨v222, rfl, ho0, hb⟩; refine ⟨_, rfl, ?_⟩; have n0_ := Aside0.mk (Kd.R_lower ho0 (below_size (by repeat (first | (with_reducible first | exact HB.out | apply below_alloc | apply Ext.below_bytes | apply pw_below_drewN | apply below_drew1) | exact HB.out)))); have n1_ := Aside0.mk (below_step (by repeat (first | (with_reducible first | exact HB.out | apply below_alloc | apply Ext.below_bytes | apply pw_below_drewN | apply below_drew1) | exact HB.out)) hb); clear HB; have HO223 := n0_; have HB := n1_; clear n0_ n1_; (try clear hb); (try clear hb2); (try clear hk); (try clear hi); (try clear ho0); obtain ⟨Ao17, co17, eo17⟩ := Kd.R_slice HO223.out; subst eo17) | ((with_reducible refine gate_callee (f := 86) rfl ?_); refine goesL_ (some 22) rfl rfl Tryd.func86 (by kernel_rfl) rfl #[.slice Ao17 t221.length co17] rfl (by (try simp only [List.map_toArray, List.map_cons, List.map_nil]); first | done | rfl | (simp only [List.length_drop, List.length_take]; rfl) | (simp [Act.eval, *]; done)) ?_; (with_reducible refine (xansi_CursorInformationReport.calls k _ _ t221 t226 _ ?side1 ?side2 ?side3 A15.out).mono ?_); (case side1 => repeat (first | exact (Kd.R_reads' HO223.out).2.2 | (with_reducible refine Kd.C_alloc ?_ _) | (with_reducible refine Kd.C_drewN ?_ _) | (with_reducible refine Kd.C_drew ?_))); (case side2 => exact (Kd.R_reads' HO223.out).2.1); (case side3 => exact HLD.out.below (by repeat (first | (with_reducible first | exact HB.out | apply below_alloc | apply Ext.below_bytes | apply pw_below_drewN | apply below_drew1) | exact HB.out))); rintro e w18 ⟨rfl, hb⟩; refine ⟨_, rfl, ?_⟩; have n0_ := Aside0.mk (Kd.R_below (by (with_reducible repeat (first | apply Kd.R_alloc | apply Ext.R_bytes | apply Kd.R_drewN | apply Kd.R_drew)); exact HO223.out) hb); have n1_ := Aside0.mk (below_step (by repeat (first | (with_reducible first | exact HB.out | apply below_alloc | apply Ext.below_bytes | apply pw_below_drewN | apply below_drew1) | exact HB.out)) hb); clear HO223; clear HB; have HO223 := n0_; have HB := n1_; clear n0_ n1_; (try clear hb); (try clear hb2); (try clear hk); (try clear hi)))
        go_ret
        exact ⟨by first | rfl | (simp [errW_none, errW_some] <;> rfl) | (simp [*, errW_none, errW_some] <;> rfl), by repeat (first | (with_reducible first | exact HB.out | apply below_alloc | apply Ext.below_bytes | apply pw_below_drewN | apply below_drew1) | exact HB.out)⟩
      · rw [if_neg c14] at H
        have c14b0 : (a0 == 2) = false := beq_eq_false_iff_ne.mpr c14
        have c14b1 : (a0 != 2) = true := bne_iff_ne.mpr c14
        by_cases c19 : a0 = 3
        · rw [if_pos c19] at H
          have c19b0 : (a0 == 3) = true := beq_iff_eq.mpr c19
          have c19b1 : (a0 != 3) = false := bne_eq_false_iff_eq.mpr c19
          clear c19
          replace H := Option.bind_eq_some_iff.mp H
          obtain ⟨t227, A200, H⟩ := H
          replace H : (some t227) = some r := H
          have A20 := Aside0.mk A200
          clear A200
          obtain rfl := Option.some.inj H
          go_enter Tryd.func22, Tryd.ntmps22
          go_wp2_with (first | ((with_reducible refine gate_callee (f := 83) rfl ?_); refine goesL_ (some 7) rfl rfl Tryd.func83 (by kernel_rfl) rfl #[.slice A1 l1.length c1] rfl (by (try simp only [List.map_toArray, List.map_cons, List.map_nil]); first | done | rfl | (simp only [List.length_drop, List.length_take]; rfl) | (simp [Act.eval, *]; done)) ?_; (with_reducible refine (impl_count.calls k _ _ l1 t221 _ ?side1 ?side2 A3.out).mono ?_); (case side1 => repeat (first | exact HR1.out | (with_reducible refine Kd.C_alloc ?_ _) | (with_reducible refine Kd.C_drewN ?_ _) | (with_reducible refine Kd.C_drew ?_))); (case side2 => exact HC1.out); rintro e w21 ⟨v222, rfl, ho0, hb⟩; refine ⟨_, rfl, ?_⟩; have n0_ := Aside0.mk (Kd.R_lower ho0 (below_size (by repeat (first | (with_reducible first | exact HB.out | apply below_alloc | apply Ext.below_bytes | apply pw_below_drewN | apply below_drew1) | exact HB.out)))); have n1_ := Aside0.mk (below_step (by repeat (first | (with_reducible first | exact HB.out | apply below_alloc | apply Ext.below_bytes | apply pw_below_drewN | apply below_drew1) | exact HB.out)) hb); clear HB; have HO223 := n0_; have HB := n1_; clear n0_ n1_; (try clear hb); (try clear hb2); (try clear hk); (try clear hi); (try clear ho0); obtain ⟨Ao22, co22, eo22⟩ := Kd.R_slice HO223.out; subst eo22) | ((with_reducible refine gate_callee (f := 87) rfl ?_); refine goesL_ (some 27) rfl rfl Tryd.func87 (by kernel_rfl) rfl #[.slice Ao22 t221.length co22] rfl (by (try simp only [List.map_toArray, List.map_cons, List.map_nil]); first | done | rfl | (simp only [List.length_drop, List.length_take]; rfl) | (simp [Act.eval, *]; done)) ?_; (with_reducible refine (xansi_TabStopReport.calls k _ _ t221 t227 _ ?side1 ?side2 ?side3 A20.out).mono ?_); (case side1 => repeat (first | exact (Kd.R_reads' HO223.out).2.2 | (with_reducible refine Kd.C_alloc ?_ _) | (with_reducible refine Kd.C_drewN ?_ _) | (with_reducible refine Kd.C_drew ?_))); (case side2 => exact (Kd.R_reads' HO223.out).2.1); (case side3 => exact HLD.out.below (by repeat (first | (with_reducible first | exact HB.out | apply below_alloc | apply Ext.below_bytes | apply pw_below_drewN | apply below_drew1) | exact HB.out))); rintro e w23 ⟨rfl, hb⟩; refine ⟨_, rfl, ?_⟩; have n0_ := Aside0.mk (Kd.R_below (by (with_reducible repeat (first | apply Kd.R_alloc | apply Ext.R_bytes | apply Kd.R_drewN | apply Kd.R_drew)); exact HO223.out) hb); have n1_ := Aside0.mk (below_step (by repeat (first | (with_reducible first | exact HB.out | apply below_alloc | apply Ext.below_bytes | apply pw_below_drewN | apply below_drew1) | exact HB.out)) hb); clear HO223; clear HB; have HO223 := n0_; have HB := n1_; clear n0_ n1_; (try clear hb); (try clear hb2); (try clear hk); (try clear hi)))
          go_ret
          exact ⟨by first | rfl | (simp [errW_none, errW_some] <;> rfl) | (simp [*, errW_none, errW_some] <;> rfl), by repeat (first | (with_reducible first | exact HB.out | apply below_alloc | apply Ext.below_bytes | apply pw_below_drewN | apply below_drew1) | exact HB.out)⟩
        · rw [if_neg c19] at H
          have c19b0 : (a0 == 3) = false := beq_eq_false_iff_ne.mpr c19
          have c19b1 : (a0 != 3) = true := bne_iff_ne.mpr c19
          by_cases c24 : a0 = 4
          · rw [if_pos c24] at H
            have c24b0 : (a0 == 4) = true := beq_iff_eq.mpr c24
            have c24b1 : (a0 != 4) = false := bne_eq_false_iff_eq.mpr c24
            clear c24
            replace H := Option.bind_eq_some_iff.mp H
            obtain ⟨t228, A250, H⟩ := H
            replace H : (some t228) = some r := H
            have A25 := Aside0.mk A250
            clear A250
            obtain rfl := Option.some.inj H
            go_enter Tryd.func22, Tryd.ntmps22
            go_wp2_with (first | ((with_reducible refine gate_callee (f := 83) rfl ?_); refine goesL_ (some 7) rfl rfl Tryd.func83 (by kernel_rfl) rfl #[.slice A1 l1.length c1] rfl (by (try simp only [List.map_toArray, List.map_cons, List.map_nil]); first | done | rfl | (simp only [List.length_drop, List.length_take]; rfl) | (simp [Act.eval, *]; done)) ?_; (with_reducible refine (impl_count.calls k _ _ l1 t221 _ ?side1 ?side2 A3.out).mono ?_); (case side1 => repeat (first | exact HR1.out | (with_reducible refine Kd.C_alloc ?_ _) | (with_reducible refine Kd.C_drewN ?_ _) | (with_reducible refine Kd.C_drew ?_))); (case side2 => exact HC1.out); rintro e w26 ⟨v222, rfl, ho0, hb⟩; refine ⟨_, rfl, ?_⟩; have n0_ := Aside0.mk (Kd.R_lower ho0 (below_size (by repeat (first | (with_reducible first | exact HB.out | apply below_alloc | apply Ext.below_bytes | apply pw_below_drewN | apply below_drew1) | exact HB.out)))); have n1_ := Aside0.mk (below_step (by repeat (first | (with_reducible first | exact HB.out | apply below_alloc | apply Ext.below_bytes | apply pw_below_drewN | apply below_drew1) | exact HB.out)) hb); clear HB; have HO223 := n0_; have HB := n1_; clear n0_ n1_; (try clear hb); (try clear hb2); (try clear hk); (try clear hi); (try clear ho0); obtain ⟨Ao27, co27, eo27⟩ := Kd.R_slice HO223.out; subst eo27) | ((with_reducible refine gate_callee (f := 88) rfl ?_); refine goesL_ (some 32) rfl rfl Tryd.func88 (by kernel_rfl) rfl #[.slice Ao27 t221.length co27] rfl (by (try simp only [List.map_toArray, List.map_cons, List.map_nil]); first | done | rfl | (simp only [List.length_drop, List.length_take]; rfl) | (simp [Act.eval, *]; done)) ?_; (with_reducible refine (xansi_SelectGraphicRendition.calls k _ _ t221 t228 _ ?side1 ?side2 ?side3 A25.out).mono ?_); (case side1 => repeat (first | exact (Kd.R_reads' HO223.out).2.2 | (with_reducible refine Kd.C_alloc ?_ _) | (with_reducible refine Kd.C_drewN ?_ _) | (with_reducible refine Kd.C_drew ?_))); (case side2 => exact (Kd.R_reads' HO223.out).2.1); (case side3 => exact HLD.out.below (by repeat (first | (with_reducible first | exact HB.out | apply below_alloc | apply Ext.below_bytes | apply pw_below_drewN | apply below_drew1) | exact HB.out))); rintro e w28 ⟨rfl, hb⟩; refine ⟨_, rfl, ?_⟩; have n0_ := Aside0.mk (Kd.R_below (by (with_reducible repeat (first | apply Kd.R_alloc | apply Ext.R_bytes | apply Kd.R_drewN | apply Kd.R_drew)); exact HO223.out) hb); have n1_ := Aside0.mk (below_step (by repeat (first | (with_reducible first | exact HB.out | apply below_alloc | apply Ext.below_bytes | apply pw_below_drewN | apply below_drew1) | exact HB.out)) hb); clear HO223; clear HB; have HO223 := n0_; have HB := n1_; clear n0_ n1_; (try clear hb); (try clear hb2); (try clear hk); (try clear hi)))
            go_ret
            exact ⟨by first | rfl | (simp [errW_none, errW_some] <;> rfl) | (simp [*, errW_none, errW_some] <;> rfl), by repeat (first | (with_reducible first | exact HB.out | apply below_alloc | apply Ext.below_bytes | apply pw_below_drewN | apply below_drew1) | exact HB.out)⟩
          · rw [if_neg c24] at H
            have c24b0 : (a0 == 4) = false := beq_eq_false_iff_ne.mpr c24
            have c24b1 : (a0 != 4) = true := bne_iff_ne.mpr c24
            have HC29 := Aside0.mk H
            clear H
            go_enter Tryd.func22, Tryd.ntmps22
            go_upto_region 12 with (first | ((with_reducible refine gate_callee (f := 83) rfl ?_); refine goesL_ (some 7) rfl rfl Tryd.func83 (by kernel_rfl) rfl #[.slice A1 l1.length c1] rfl (by (try simp only [List.map_toArray, List.map_cons, List.map_nil]); first | done | rfl | (simp only [List.length_drop, List.length_take]; rfl) | (simp [Act.eval, *]; done)) ?_; (with_reducible refine (impl_count.calls k _ _ l1 t221 _ ?side1 ?side2 A3.out).mono ?_); (case side1 => repeat (first | exact HR1.out | (with_reducible refine Kd.C_alloc ?_ _) | (with_reducible refine Kd.C_drewN ?_ _) | (with_reducible refine Kd.C_drew ?_))); (case side2 => exact HC1.out); rintro e w30 ⟨v222, rfl, ho0, hb⟩; refine ⟨_, rfl, ?_⟩; have n0_ := Aside0.mk (Kd.R_lower ho0 (below_size (by repeat (first | (with_reducible first | exact HB.out | apply below_alloc | apply Ext.below_bytes | apply pw_below_drewN | apply below_drew1) | exact HB.out)))); have n1_ := Aside0.mk (below_step (by repeat (first | (with_reducible first | exact HB.out | apply below_alloc | apply Ext.below_bytes | apply pw_below_drewN | apply below_drew1) | exact HB.out)) hb); clear HB; have HO223 := n0_; have HB := n1_; clear n0_ n1_; (try clear hb); (try clear hb2); (try clear hk); (try clear hi); (try clear ho0)))
            (try simp only [Act.put, List.setIfInBounds_toArray, List.set_cons_zero, List.set_cons_succ])
            go_cut [33] (fun v33 wc => ∃ (kq : Nat) (x33_28 : Bool), v33 = .bool x33_28 ∧ Aside0 (impl_MakeList.j0 kq a0 t221 x33_28 = some r) ∧ Aside0 (kq ≤ k) ∧ Aside0 (Kd.R (Kd.int .i64) 3 wc w.heap.size (fun _ => True) v222 t221) ∧ Aside0 (Below w.heap.size w wc))
            case first =>
              have H := HC29.out
              clear HC29
              by_cases c31 : a0 = 5
              · rw [if_pos c31] at H
                have c31b0 : (a0 == 5) = true := beq_iff_eq.mpr c31
                have c31b1 : (a0 != 5) = false := bne_eq_false_iff_eq.mpr c31
                clear c31
                (first | rw [c31b0] | (simp only [i64_w, i32_w]; rw [c31b0]) | skip)
                have H' := Aside0.mk H
                clear H
                obtain ⟨Ao32, co32, eo32⟩ := Kd.R_slice HO223.out
                subst eo32
                go_wp2
                go_meet
                case rel => exact ⟨_, (decide ((t221.length : Int) > 0)), (by first | rfl | (simp; done) | (simp [*]; done)), H', ⟨by first | omega | exact Nat.le_refl _⟩, ⟨by (with_reducible repeat (first | apply Kd.R_alloc | apply Ext.R_bytes | apply Kd.R_drewN | apply Kd.R_drew)); exact HO223.out⟩, ⟨by repeat (first | (with_reducible first | exact HB.out | apply below_alloc | apply Ext.below_bytes | apply pw_below_drewN | apply below_drew1) | exact HB.out)⟩⟩
              · rw [if_neg c31] at H
                have c31b0 : (a0 == 5) = false := beq_eq_false_iff_ne.mpr c31
                have c31b1 : (a0 != 5) = true := bne_iff_ne.mpr c31
                (first | rw [c31b0] | (simp only [i64_w, i32_w]; rw [c31b0]) | skip)
                have H' := Aside0.mk H
                clear H
                go_wp2
                go_meet
                case rel => exact ⟨_, (false), (by first | rfl | (simp; done) | (simp [*]; done)), H', ⟨by first | omega | exact Nat.le_refl _⟩, ⟨by (with_reducible repeat (first | apply Kd.R_alloc | apply Ext.R_bytes | apply Kd.R_drewN | apply Kd.R_drew)); exact HO223.out⟩, ⟨by repeat (first | (with_reducible first | exact HB.out | apply below_alloc | apply Ext.below_bytes | apply pw_below_drewN | apply below_drew1) | exact HB.out)⟩⟩
            case rest =>
              clear HC29
              try clear c1
              try clear c2
              try clear p2
              try clear c3
              try clear c4
              try clear c4b0
              try clear c4b1
              try clear c8
              try clear c9
              try clear c9b0
              try clear c9b1
              try clear c14
              try clear c14b0
              try clear c14b1
              try clear c19
              try clear c19b0
              try clear c19b1
              try clear c22
              try clear c24
              try clear c24b0
              try clear c24b1
              try clear c31
              try clear c31b0
              try clear c31b1
              obtain ⟨kq, x33_28, rfl, HA, HJ28, HO_5, HB⟩ := hcut
              cases kq with
              | zero => exact absurd HA.out (by simp [impl_MakeList.j0])
              | succ kj28 =>
                have H := HA.out
                clear HA
                simp only [impl_MakeList.j0] at H
                by_cases c33 : x33_28 = true
                · subst c33
                  have H1 : (if 0 < (t221.length : Int) then (if 1 ≤ (t221.length : Int) then ((xansi_WindowOp.f kj28 (rd t221 0) (t221.drop 1)).bind fun t234 => (some t234)) else (none)) else (none)) = some r := by rw [if_pos rfl] at H; exact H
                  clear H
                  have H := H1
                  clear H1
                  by_cases c34 : 0 < (t221.length : Int)
                  · rw [if_pos c34] at H
                    have c34b0 : decide (0 < (t221.length : Int)) = true := decide_eq_true c34
                    have c34b1 : decide (0 < t221.length) = true := decide_eq_true (by omega)
                    clear c34
                    by_cases c35 : 1 ≤ (t221.length : Int)
                    · rw [if_pos c35] at H
                      have c35b0 := eq_true c35
                      have c35b1 : decide (1 ≤ (t221.length : Int)) = true := decide_eq_true c35
                      clear c35
                      obtain ⟨y230, hy230⟩ : ∃ y_ : List Int, y_ = (t221.drop 1) := ⟨_, rfl⟩
                      replace H : ((xansi_WindowOp.f kj28 (rd t221 0) y230).bind fun t234 => (some t234)) = some r := by first | (rw [hy230]; with_reducible exact H) | (have H2_ := (Option.bind_some _ _).symm.trans H; rw [hy230]; with_reducible exact H2_) | (have H2_ := (Option.bind_some _ _).symm.trans H; with_reducible exact H2_) | with_reducible exact H | (rw [hy230]; exact H) | exact H
                      have Ny230 := Aside0.mk hy230
                      clear hy230
                      replace H := Option.bind_eq_some_iff.mp H
                      obtain ⟨t234, A360, H⟩ := H
                      replace H : (some t234) = some r := H
                      have A36 := Aside0.mk A360
                      clear A360
                      obtain rfl := Option.some.inj H
                      try go_wp2
                      have n0_ := Aside0.mk (Kd.R_drew HO_5.out)
                      have n1_ := Aside0.mk (below_drew1 HB.out)
                      clear HO_5
                      clear HB
                      have HO_5 := n0_
                      have HB := n1_
                      clear n0_ n1_
                      obtain ⟨Ao38, co38, eo38⟩ := Kd.R_slice HO_5.out
                      (first | subst eo38 | (injection eo38 with f1_ f2_ f3_; have f4_ := f1_.symm; have f5_ := f3_.symm; clear f1_ f2_ f3_; subst f4_; subst f5_))
                      have p229 : 0 ≤ (0 : Int) := (by omega)
                      have q229 : 0 < (t221.length : Int) := of_decide_eq_true (by first | (with_reducible assumption) | assumption)
                      obtain ⟨ad229, e229, hx229_0⟩ := Kd.at_int (Kd.R_reads' HO_5.out).2.2 0 p229 q229
                      cases e229
                      have qi229 : (0 < t221.length) = True := eq_true (by omega)
                      (try rw [show ((0 : Int)).toNat = 0 from rfl] at hx229_0)
                      (try rw [Addr.add_zero'] at hx229_0)
                      replace p229 := eq_true p229
                      replace q229 := eq_true q229
                      have q39 : (1 : Int) ≤ ((t221.length : Int) : Int) := of_decide_eq_true (by first | (with_reducible assumption) | assumption)
                      obtain ⟨i039, hi039, _, hsz39, _⟩ := info_parts info3
                      have hroom39 : t221.length ≤ co38 := (Kd.R_reads' HO_5.out).2.1
                      have hC39 : Kd.C (Kd.int .i64) _ (some ad229) t221.length t221 := (Kd.R_reads' HO_5.out).2.2
                      have hcut39 := cut_from (P := Tryd.prog) 74 3 .i64 Tryd.underlying74 hi039 1 hsz39 (some ad229) t221.length co38 1 (by omega) q39
                      have hr39 := Kd.C_drop (m := (1 : Int).toNat) (c := co38) hC39 (by omega) hroom39
                      obtain ⟨A39, hA39⟩ : ∃ A1, A1 = (if co38 = (1 : Int).toNat then (some ad229) else ((some ad229) : Option Addr).map (·.add ((1 : Int).toNat * 1))) := ⟨_, rfl⟩
                      obtain ⟨c39, hc39⟩ : ∃ c1, c1 = co38 - (1 : Int).toNat := ⟨_, rfl⟩
                      have hy39 : y230.length = t221.length - (1 : Int).toNat := (by rw [Ny230.out, List.length_drop] <;> omega)
                      rw [show (t221).drop (1 : Int).toNat = y230 from Ny230.out.symm] at hr39
                      replace hr39 : Kd.C (Kd.int .i64) _ A39 y230.length y230 := (by rw [hA39]; exact hr39)
                      rw [← hy39, ← hA39, ← hc39] at hcut39
                      have HR233 := Aside0.mk hr39
                      have HC233 := Aside0.mk (show y230.length ≤ c39 from by rw [hy39, hc39]; exact Nat.sub_le_sub_right hroom39 _)
                      clear hr39 hC39 hroom39 hi039 hsz39 hc39
                      have KY39 := Aside0.mk hy39
                      have KA39 := Aside0.mk hA39
                      clear hy39 hA39
                      have KL39 := Aside0.mk (show 1 ≤ t221.length from by omega)
                      replace q39 := eq_true q39
                      refine start_ (n := 7) (S := fun w' => w'.cell? ad229 = some (.int .i64 (rd t221 0))) (ds := []) #[false, false, false, false, false, false, false] (by kernel_rfl) rfl rfl (hx229_0) (fun hHeld => ?_)
                      generalize wc.drew = w37 at HO_5 HB HR233 hx229_0 hHeld ⊢
                      refine pure_ (i := 0) (N := some 41) (v := ?_) (a' := ?_) #[true, false, false, false, false, false, false] rfl rfl (by kernel_rfl) (fun _ _ _ h => h) (Or.inl ⟨by rfl, ?_⟩) ?_ ?_
                      rotate_left
                      · intro w'
                        go_simp
                        with_reducible rfl
                      rotate_left
                      · simp only [Act.put, List.setIfInBounds_toArray, List.set_cons_zero, List.set_cons_succ, i64_w, i32_w]
                        rfl
                      refine pure_ (i := 1) (N := some 42) (v := ?_) (a' := ?_) #[true, true, false, false, false, false, false] rfl rfl (by kernel_rfl) (fun _ _ _ h => h) (Or.inl ⟨by rfl, ?_⟩) ?_ ?_
                      rotate_left
                      · intro w'
                        go_simp
                        with_reducible rfl
                      rotate_left
                      · simp only [Act.put, List.setIfInBounds_toArray, List.set_cons_zero, List.set_cons_succ, i64_w, i32_w]
                        rfl
                      refine pure_ (i := 3) (N := some 44) (v := ?_) (a' := ?_) #[true, true, false, true, false, false, false] rfl rfl (by kernel_rfl) (fun _ _ _ h => h) (Or.inl ⟨by rfl, ?_⟩) ?_ ?_
                      rotate_left
                      · intro w'
                        go_simp
                        with_reducible rfl
                      rotate_left
                      · simp only [Act.put, List.setIfInBounds_toArray, List.set_cons_zero, List.set_cons_succ, i64_w, i32_w]
                        rfl
                      refine pure_ (i := 4) (N := some 45) (v := ?_) (a' := ?_) #[true, true, false, true, true, false, false] rfl rfl (by kernel_rfl) (fun _ _ _ h => h) (Or.inl ⟨by rfl, ?_⟩) ?_ ?_
                      rotate_left
                      · intro w'
                        go_simp
                        with_reducible rfl
                      rotate_left
                      · simp only [Act.put, List.setIfInBounds_toArray, List.set_cons_zero, List.set_cons_succ, i64_w, i32_w]
                        rfl
                      refine take_ (i := 2) (N := some 43) (v := ?_) (a' := ?_) #[true, true, true, true, true, false, false] rfl rfl (by kernel_rfl) (fun _ _ _ h => h) (Or.inl ⟨by rfl, ?_⟩) hHeld ?_ ?_
                      rotate_left
                      · intro w' s0
                        go_simp
                        with_reducible rfl
                      rotate_left
                      · simp only [Act.put, List.setIfInBounds_toArray, List.set_cons_zero, List.set_cons_succ, i64_w, i32_w]
                        rfl
                      refine one_ (i := 5) (N := some 46) #[true, true, true, true, true, true, false] rfl rfl (by kernel_rfl) (by decide) (fun K hK => ?_)
                      refine goes_ Tryd.func89 (by kernel_rfl) rfl #[.int .i64 (rd t221 0), .slice A39 y230.length c39] (by rfl) rfl rfl (by (try simp only [List.map_toArray, List.map_cons, List.map_nil]); first | done | rfl | (simp only [List.length_drop, List.length_take]; rfl) | (simp [Act.eval, *]; done)) ?_
                      with_reducible refine (xansi_WindowOp.calls kj28 (rd t221 0) _ _ y230 t234 _ ?side1 ?side2 ?side3 A36.out).mono ?_
                      (case side1 => repeat (first | exact (by repeat (first | (with_reducible exact HR233.out) | (with_reducible refine Kd.C_alloc ?_ _) | (with_reducible refine Kd.C_drewN ?_ _) | (with_reducible refine Kd.C_drew ?_) | exact HR233.out)) | (with_reducible refine Kd.C_alloc ?_ _) | (with_reducible refine Kd.C_drewN ?_ _) | (with_reducible refine Kd.C_drew ?_)))
                      (case side2 => exact HC233.out)
                      (case side3 => exact HLD.out.below (by repeat (first | (with_reducible first | exact HB.out | apply below_alloc | apply Ext.below_bytes | apply pw_below_drewN | apply below_drew1) | exact HB.out)))
                      rintro e w40 ⟨rfl, hb⟩
                      have HS0_ := (hb.cell (World.block_lt_of_cell? _ _ (hHeld))).trans (hHeld)
                      refine ⟨_, rfl, ?_⟩
                      have n0_ := Aside0.mk (Kd.R_below (by (with_reducible repeat (first | apply Kd.R_alloc | apply Ext.R_bytes | apply Kd.R_drewN | apply Kd.R_drew)); exact HO_5.out) hb)
                      have n1_ := Aside0.mk (Kd.C_below (by repeat (first | (with_reducible exact HR233.out) | (with_reducible refine Kd.C_alloc ?_ _) | (with_reducible refine Kd.C_drewN ?_ _) | (with_reducible refine Kd.C_drew ?_) | exact HR233.out)) hb)
                      have n2_ := Aside0.mk (below_step (by repeat (first | (with_reducible first | exact HB.out | apply below_alloc | apply Ext.below_bytes | apply pw_below_drewN | apply below_drew1) | exact HB.out)) hb)
                      clear HO_5
                      clear HR233
                      clear HB
                      have HO_5 := n0_
                      have HR233 := n1_
                      have HB := n2_
                      clear n0_ n1_ n2_
                      (try clear hb)
                      (try clear hb2)
                      (try clear hk)
                      (try clear hi)
                      refine hK.out _ _ (HS0_) (fun hHeld => ?_)
                      clear hK K
                      refine norm_ (a' := ?_) ?_ ?_
                      rotate_left
                      · show Act.put _ (some 46) _ = _
                        simp only [Act.put, List.setIfInBounds_toArray, List.set_cons_zero, List.set_cons_succ, i64_w, i32_w]
                        rfl
                      refine pure_ (i := 6) (N := some 4) (v := ?_) (a' := ?_) #[true, true, true, true, true, true, true] rfl rfl (by kernel_rfl) (fun _ _ _ h => h) (Or.inl ⟨by rfl, ?_⟩) ?_ ?_
                      rotate_left
                      · intro w'
                        go_simp
                        with_reducible rfl
                      rotate_left
                      · simp only [Act.put, List.setIfInBounds_toArray, List.set_cons_zero, List.set_cons_succ, i64_w, i32_w]
                        rfl
                      refine done_ (by kernel_rfl) ?_
                      try go_wp2
                      go_ret
                      exact ⟨by first | rfl | (simp [errW_none, errW_some] <;> rfl) | (simp [*, errW_none, errW_some] <;> rfl), by repeat (first | (with_reducible first | exact HB.out | apply below_alloc | apply Ext.below_bytes | apply pw_below_drewN | apply below_drew1) | exact HB.out)⟩
                    · rw [if_neg c35] at H
                      exact absurd H (by simp)
                  · rw [if_neg c34] at H
                    exact absurd H (by simp)
                · replace c33 := Bool.eq_false_iff.mpr c33
                  subst c33
                  have H1 : (if a0 = 6 then (impl_MakeList.j1 kj28 a0 t221 (decide ((t221.length : Int) > 0))) else (impl_MakeList.j1 kj28 a0 t221 false)) = some r := by rw [if_neg (show ¬ (false = true) by decide)] at H; exact H
                  clear H
                  have H := H1
                  clear H1
                  have HC41 := Aside0.mk H
                  clear H
                  go_upto_region 14 with (fail)
                  go_cut [47] (fun v47 wc => ∃ (kq : Nat) (x47_40 : Bool), v47 = .bool x47_40 ∧ Aside0 (impl_MakeList.j1 kq a0 t221 x47_40 = some r) ∧ Aside0 (kq ≤ kj28) ∧ Aside0 (Kd.R (Kd.int .i64) 3 wc w.heap.size (fun _ => True) v222 t221) ∧ Aside0 (Below w.heap.size w wc))
                  case first =>
                    have H := HC41.out
                    clear HC41
                    by_cases c42 : a0 = 6
                    · rw [if_pos c42] at H
                      have c42b0 : (a0 == 6) = true := beq_iff_eq.mpr c42
                      have c42b1 : (a0 != 6) = false := bne_eq_false_iff_eq.mpr c42
                      clear c42
                      (first | rw [c42b0] | (simp only [i64_w, i32_w]; rw [c42b0]) | skip)
                      have H' := Aside0.mk H
                      clear H
                      obtain ⟨Ao43, co43, eo43⟩ := Kd.R_slice HO_5.out
                      subst eo43
                      go_wp2
                      go_meet
                      case rel => exact ⟨_, (decide ((t221.length : Int) > 0)), (by first | rfl | (simp; done) | (simp [*]; done)), H', ⟨by have := HJ28.out; first | omega | exact Nat.le_refl _⟩, ⟨by (with_reducible repeat (first | apply Kd.R_alloc | apply Ext.R_bytes | apply Kd.R_drewN | apply Kd.R_drew)); exact HO_5.out⟩, ⟨by repeat (first | (with_reducible first | exact HB.out | apply below_alloc | apply Ext.below_bytes | apply pw_below_drewN | apply below_drew1) | exact HB.out)⟩⟩
                    · rw [if_neg c42] at H
                      have c42b0 : (a0 == 6) = false := beq_eq_false_iff_ne.mpr c42
                      have c42b1 : (a0 != 6) = true := bne_iff_ne.mpr c42
                      (first | rw [c42b0] | (simp only [i64_w, i32_w]; rw [c42b0]) | skip)
                      have H' := Aside0.mk H
                      clear H
                      go_wp2
                      go_meet
                      case rel => exact ⟨_, (false), (by first | rfl | (simp; done) | (simp [*]; done)), H', ⟨by have := HJ28.out; first | omega | exact Nat.le_refl _⟩, ⟨by (with_reducible repeat (first | apply Kd.R_alloc | apply Ext.R_bytes | apply Kd.R_drewN | apply Kd.R_drew)); exact HO_5.out⟩, ⟨by repeat (first | (with_reducible first | exact HB.out | apply below_alloc | apply Ext.below_bytes | apply pw_below_drewN | apply below_drew1) | exact HB.out)⟩⟩
                  case rest =>
                    clear HC41
                    try clear c1
                    try clear c2
                    try clear p2
                    try clear q2
                    try clear hx2
                    try clear qi2
                    try clear c3
                    try clear q3
                    try clear c4
                    try clear c4b0
                    try clear c4b1
                    try clear c8
                    try clear c9
                    try clear c9b0
                    try clear c9b1
                    try clear c14
                    try clear c14b0
                    try clear c14b1
                    try clear c19
                    try clear c19b0
                    try clear c19b1
                    try clear c22
                    try clear p22
                    try clear q22
                    try clear hx22
                    try clear qi22
                    try clear c24
                    try clear c24b0
                    try clear c24b1
                    try clear c31
                    try clear c31b0
                    try clear c31b1
                    try clear c33
                    try clear c34
                    try clear c34b0
                    try clear c34b1
                    try clear c35
                    try clear c35b0
                    try clear c35b1
                    try clear c39
                    try clear q39
                    try clear c42
                    try clear c42b0
                    try clear c42b1
                    try clear hx229_0
                    try clear p2
                    try clear p229
                    try clear q229
                    try clear q39
                    obtain ⟨kq, x47_40, rfl, HA, HJ40, HO_5, HB⟩ := hcut
                    cases kq with
                    | zero => exact absurd HA.out (by simp [impl_MakeList.j1])
                    | succ kj40 =>
                      have H := HA.out
                      clear HA
                      simp only [impl_MakeList.j1] at H
                      by_cases c44 : x47_40 = true
                      · subst c44
                        have H1 : (if 0 < (t221.length : Int) then (if 1 ≤ (t221.length : Int) then ((xansi_KeyModifierOptions.f kj40 (rd t221 0) (t221.drop 1)).bind fun t240 => (some t240)) else (none)) else (none)) = some r := by rw [if_pos rfl] at H; exact H
                        clear H
                        have H := H1
                        clear H1
                        by_cases c45 : 0 < (t221.length : Int)
                        · rw [if_pos c45] at H
                          have c45b0 : decide (0 < (t221.length : Int)) = true := decide_eq_true c45
                          have c45b1 : decide (0 < t221.length) = true := decide_eq_true (by omega)
                          clear c45
                          by_cases c46 : 1 ≤ (t221.length : Int)
                          · rw [if_pos c46] at H
                            have c46b0 := eq_true c46
                            have c46b1 : decide (1 ≤ (t221.length : Int)) = true := decide_eq_true c46
                            clear c46
                            obtain ⟨y236, hy236⟩ : ∃ y_ : List Int, y_ = (t221.drop 1) := ⟨_, rfl⟩
                            replace H : ((xansi_KeyModifierOptions.f kj40 (rd t221 0) y236).bind fun t240 => (some t240)) = some r := by first | (rw [hy236]; with_reducible exact H) | (have H2_ := (Option.bind_some _ _).symm.trans H; rw [hy236]; with_reducible exact H2_) | (have H2_ := (Option.bind_some _ _).symm.trans H; with_reducible exact H2_) | with_reducible exact H | (rw [hy236]; exact H) | exact H
                            have Ny236 := Aside0.mk hy236
                            clear hy236
                            replace H := Option.bind_eq_some_iff.mp H
                            obtain ⟨t240, A470, H⟩ := H
                            replace H : (some t240) = some r := H
                            have A47 := Aside0.mk A470
                            clear A470
                            obtain rfl := Option.some.inj H
                            try go_wp2
                            have n0_ := Aside0.mk (Kd.R_drew HO_5.out)
                            have n1_ := Aside0.mk (below_drew1 HB.out)
                            clear HO_5
                            clear HB
                            have HO_5 := n0_
                            have HB := n1_
                            clear n0_ n1_
                            obtain ⟨Ao49, co49, eo49⟩ := Kd.R_slice HO_5.out
                            (first | subst eo49 | (injection eo49 with f1_ f2_ f3_; have f4_ := f1_.symm; have f5_ := f3_.symm; clear f1_ f2_ f3_; subst f4_; subst f5_))
                            have p235 : 0 ≤ (0 : Int) := (by omega)
                            have q235 : 0 < (t221.length : Int) := of_decide_eq_true (by first | (with_reducible assumption) | assumption)
                            obtain ⟨ad235, e235, hx235_0⟩ := Kd.at_int (Kd.R_reads' HO_5.out).2.2 0 p235 q235
                            cases e235
                            have qi235 : (0 < t221.length) = True := eq_true (by omega)
                            (try rw [show ((0 : Int)).toNat = 0 from rfl] at hx235_0)
                            (try rw [Addr.add_zero'] at hx235_0)
                            replace p235 := eq_true p235
                            replace q235 := eq_true q235
                            have q50 : (1 : Int) ≤ ((t221.length : Int) : Int) := of_decide_eq_true (by first | (with_reducible assumption) | assumption)
                            obtain ⟨i050, hi050, _, hsz50, _⟩ := info_parts info3
                            have hroom50 : t221.length ≤ co49 := (Kd.R_reads' HO_5.out).2.1
                            have hC50 : Kd.C (Kd.int .i64) _ (some ad235) t221.length t221 := (Kd.R_reads' HO_5.out).2.2
                            have hcut50 := cut_from (P := Tryd.prog) 74 3 .i64 Tryd.underlying74 hi050 1 hsz50 (some ad235) t221.length co49 1 (by omega) q50
                            have hr50 := Kd.C_drop (m := (1 : Int).toNat) (c := co49) hC50 (by omega) hroom50
                            obtain ⟨A50, hA50⟩ : ∃ A1, A1 = (if co49 = (1 : Int).toNat then (some ad235) else ((some ad235) : Option Addr).map (·.add ((1 : Int).toNat * 1))) := ⟨_, rfl⟩
                            obtain ⟨c50, hc50⟩ : ∃ c1, c1 = co49 - (1 : Int).toNat := ⟨_, rfl⟩
                            have hy50 : y236.length = t221.length - (1 : Int).toNat := (by rw [Ny236.out, List.length_drop] <;> omega)
                            rw [show (t221).drop (1 : Int).toNat = y236 from Ny236.out.symm] at hr50
                            replace hr50 : Kd.C (Kd.int .i64) _ A50 y236.length y236 := (by rw [hA50]; exact hr50)
                            rw [← hy50, ← hA50, ← hc50] at hcut50
                            have HR239 := Aside0.mk hr50
                            have HC239 := Aside0.mk (show y236.length ≤ c50 from by rw [hy50, hc50]; exact Nat.sub_le_sub_right hroom50 _)
                            clear hr50 hC50 hroom50 hi050 hsz50 hc50
                            have KY50 := Aside0.mk hy50
                            have KA50 := Aside0.mk hA50
                            clear hy50 hA50
                            have KL50 := Aside0.mk (show 1 ≤ t221.length from by omega)
                            replace q50 := eq_true q50
                            refine start_ (n := 7) (S := fun w' => w'.cell? ad235 = some (.int .i64 (rd t221 0))) (ds := []) #[false, false, false, false, false, false, false] (by kernel_rfl) rfl rfl (hx235_0) (fun hHeld => ?_)
                            generalize wc.drew = w48 at HO_5 HB HR239 hx235_0 hHeld ⊢
                            refine pure_ (i := 0) (N := some 55) (v := ?_) (a' := ?_) #[true, false, false, false, false, false, false] rfl rfl (by kernel_rfl) (fun _ _ _ h => h) (Or.inl ⟨by rfl, ?_⟩) ?_ ?_
                            rotate_left
                            · intro w'
                              go_simp
                              with_reducible rfl
                            rotate_left
                            · simp only [Act.put, List.setIfInBounds_toArray, List.set_cons_zero, List.set_cons_succ, i64_w, i32_w]
                              rfl
                            refine pure_ (i := 1) (N := some 56) (v := ?_) (a' := ?_) #[true, true, false, false, false, false, false] rfl rfl (by kernel_rfl) (fun _ _ _ h => h) (Or.inl ⟨by rfl, ?_⟩) ?_ ?_
                            rotate_left
                            · intro w'
                              go_simp
                              with_reducible rfl
                            rotate_left
                            · simp only [Act.put, List.setIfInBounds_toArray, List.set_cons_zero, List.set_cons_succ, i64_w, i32_w]
                              rfl
                            refine pure_ (i := 3) (N := some 58) (v := ?_) (a' := ?_) #[true, true, false, true, false, false, false] rfl rfl (by kernel_rfl) (fun _ _ _ h => h) (Or.inl ⟨by rfl, ?_⟩) ?_ ?_
                            rotate_left
                            · intro w'
                              go_simp
                              with_reducible rfl
                            rotate_left
                            · simp only [Act.put, List.setIfInBounds_toArray, List.set_cons_zero, List.set_cons_succ, i64_w, i32_w]
                              rfl
                            refine pure_ (i := 4) (N := some 59) (v := ?_) (a' := ?_) #[true, true, false, true, true, false, false] rfl rfl (by kernel_rfl) (fun _ _ _ h => h) (Or.inl ⟨by rfl, ?_⟩) ?_ ?_
                            rotate_left
                            · intro w'
                              go_simp
                              with_reducible rfl
                            rotate_left
                            · simp only [Act.put, List.setIfInBounds_toArray, List.set_cons_zero, List.set_cons_succ, i64_w, i32_w]
                              rfl
                            refine take_ (i := 2) (N := some 57) (v := ?_) (a' := ?_) #[true, true, true, true, true, false, false] rfl rfl (by kernel_rfl) (fun _ _ _ h => h) (Or.inl ⟨by rfl, ?_⟩) hHeld ?_ ?_
                            rotate_left
                            · intro w' s0
                              go_simp
                              with_reducible rfl
                            rotate_left
                            · simp only [Act.put, List.setIfInBounds_toArray, List.set_cons_zero, List.set_cons_succ, i64_w, i32_w]
                              rfl
                            refine one_ (i := 5) (N := some 60) #[true, true, true, true, true, true, false] rfl rfl (by kernel_rfl) (by decide) (fun K hK => ?_)
                            refine goes_ Tryd.func90 (by kernel_rfl) rfl #[.int .i64 (rd t221 0), .slice A50 y236.length c50] (by rfl) rfl rfl (by (try simp only [List.map_toArray, List.map_cons, List.map_nil]); first | done | rfl | (simp only [List.length_drop, List.length_take]; rfl) | (simp [Act.eval, *]; done)) ?_
                            with_reducible refine (xansi_KeyModifierOptions.calls kj40 (rd t221 0) _ _ y236 t240 _ ?side1 ?side2 ?side3 A47.out).mono ?_
                            (case side1 => repeat (first | exact (by repeat (first | (with_reducible exact HR239.out) | (with_reducible refine Kd.C_alloc ?_ _) | (with_reducible refine Kd.C_drewN ?_ _) | (with_reducible refine Kd.C_drew ?_) | exact HR239.out)) | (with_reducible refine Kd.C_alloc ?_ _) | (with_reducible refine Kd.C_drewN ?_ _) | (with_reducible refine Kd.C_drew ?_)))
                            (case side2 => exact HC239.out)
                            (case side3 => exact HLD.out.below (by repeat (first | (with_reducible first | exact HB.out | apply below_alloc | apply Ext.below_bytes | apply pw_below_drewN | apply below_drew1) | exact HB.out)))
                            rintro e w51 ⟨rfl, hb⟩
                            have HS0_ := (hb.cell (World.block_lt_of_cell? _ _ (hHeld))).trans (hHeld)
                            refine ⟨_, rfl, ?_⟩
                            have n0_ := Aside0.mk (Kd.R_below (by (with_reducible repeat (first | apply Kd.R_alloc | apply Ext.R_bytes | apply Kd.R_drewN | apply Kd.R_drew)); exact HO_5.out) hb)
                            have n1_ := Aside0.mk (Kd.C_below (by repeat (first | (with_reducible exact HR239.out) | (with_reducible refine Kd.C_alloc ?_ _) | (with_reducible refine Kd.C_drewN ?_ _) | (with_reducible refine Kd.C_drew ?_) | exact HR239.out)) hb)
                            have n2_ := Aside0.mk (below_step (by repeat (first | (with_reducible first | exact HB.out | apply below_alloc | apply Ext.below_bytes | apply pw_below_drewN | apply below_drew1) | exact HB.out)) hb)
                            clear HO_5
                            clear HR239
                            clear HB
                            have HO_5 := n0_
                            have HR239 := n1_
                            have HB := n2_
                            clear n0_ n1_ n2_
                            (try clear hb)
                            (try clear hb2)
                            (try clear hk)
                            (try clear hi)
                            refine hK.out _ _ (HS0_) (fun hHeld => ?_)
                            clear hK K
                            refine norm_ (a' := ?_) ?_ ?_
                            rotate_left
                            · show Act.put _ (some 60) _ = _
                              simp only [Act.put, List.setIfInBounds_toArray, List.set_cons_zero, List.set_cons_succ, i64_w, i32_w]
                              rfl
                            refine pure_ (i := 6) (N := some 4) (v := ?_) (a' := ?_) #[true, true, true, true, true, true, true] rfl rfl (by kernel_rfl) (fun _ _ _ h => h) (Or.inl ⟨by rfl, ?_⟩) ?_ ?_
                            rotate_left
                            · intro w'
                              go_simp
                              with_reducible rfl
                            rotate_left
                            · simp only [Act.put, List.setIfInBounds_toArray, List.set_cons_zero, List.set_cons_succ, i64_w, i32_w]
                              rfl
                            refine done_ (by kernel_rfl) ?_
                            try go_wp2
                            go_ret
                            exact ⟨by first | rfl | (simp [errW_none, errW_some] <;> rfl) | (simp [*, errW_none, errW_some] <;> rfl), by repeat (first | (with_reducible first | exact HB.out | apply below_alloc | apply Ext.below_bytes | apply pw_below_drewN | apply below_drew1) | exact HB.out)⟩
                          · rw [if_neg c46] at H
                            exact absurd H (by simp)
                        · rw [if_neg c45] at H
                          exact absurd H (by simp)
                      · replace c44 := Bool.eq_false_iff.mpr c44
                        subst c44
                        have H1 : (if a0 = 7 then (impl_MakeList.j2 kj40 a0 t221 ((t221.length : Int) == 3)) else (impl_MakeList.j2 kj40 a0 t221 false)) = some r := by rw [if_neg (show ¬ (false = true) by decide)] at H; exact H
                        clear H
                        have H := H1
                        clear H1
                        have HC52 := Aside0.mk H
                        clear H
                        go_upto_region 16 with (fail)
                        go_cut [61] (fun v61 wc => ∃ (kq : Nat) (x61_51 : Bool), v61 = .bool x61_51 ∧ Aside0 (impl_MakeList.j2 kq a0 t221 x61_51 = some r) ∧ Aside0 (kq ≤ kj40) ∧ Aside0 (Kd.R (Kd.int .i64) 3 wc w.heap.size (fun _ => True) v222 t221) ∧ Aside0 (Below w.heap.size w wc))
                        case first =>
                          have H := HC52.out
                          clear HC52
                          by_cases c53 : a0 = 7
                          · rw [if_pos c53] at H
                            have c53b0 : (a0 == 7) = true := beq_iff_eq.mpr c53
                            have c53b1 : (a0 != 7) = false := bne_eq_false_iff_eq.mpr c53
                            clear c53
                            (first | rw [c53b0] | (simp only [i64_w, i32_w]; rw [c53b0]) | skip)
                            have H' := Aside0.mk H
                            clear H
                            obtain ⟨Ao54, co54, eo54⟩ := Kd.R_slice HO_5.out
                            subst eo54
                            go_wp2
                            go_meet
                            case rel => exact ⟨_, (((t221.length : Int) == 3)), (by first | rfl | (simp; done) | (simp [*]; done)), H', ⟨by have := HJ28.out; have := HJ40.out; first | omega | exact Nat.le_refl _⟩, ⟨by (with_reducible repeat (first | apply Kd.R_alloc | apply Ext.R_bytes | apply Kd.R_drewN | apply Kd.R_drew)); exact HO_5.out⟩, ⟨by repeat (first | (with_reducible first | exact HB.out | apply below_alloc | apply Ext.below_bytes | apply pw_below_drewN | apply below_drew1) | exact HB.out)⟩⟩
                          · rw [if_neg c53] at H
                            have c53b0 : (a0 == 7) = false := beq_eq_false_iff_ne.mpr c53
                            have c53b1 : (a0 != 7) = true := bne_iff_ne.mpr c53
                            (first | rw [c53b0] | (simp only [i64_w, i32_w]; rw [c53b0]) | skip)
                            have H' := Aside0.mk H
                            clear H
                            go_wp2
                            go_meet
                            case rel => exact ⟨_, (false), (by first | rfl | (simp; done) | (simp [*]; done)), H', ⟨by have := HJ28.out; have := HJ40.out; first | omega | exact Nat.le_refl _⟩, ⟨by (with_reducible repeat (first | apply Kd.R_alloc | apply Ext.R_bytes | apply Kd.R_drewN | apply Kd.R_drew)); exact HO_5.out⟩, ⟨by repeat (first | (with_reducible first | exact HB.out | apply below_alloc | apply Ext.below_bytes | apply pw_below_drewN | apply below_drew1) | exact HB.out)⟩⟩
                        case rest =>
                          clear HC52
                          try clear c1
                          try clear c2
                          try clear p2
                          try clear q2
                          try clear hx2
                          try clear qi2
                          try clear c3
                          try clear q3
                          try clear c4
                          try clear c4b0
                          try clear c4b1
                          try clear c5
                          try clear q5
                          try clear c8
                          try clear c9
                          try clear c9b0
                          try clear c9b1
                          try clear c14
                          try clear c14b0
                          try clear c14b1
                          try clear c19
                          try clear c19b0
                          try clear c19b1
                          try clear c22
                          try clear p22
                          try clear q22
                          try clear hx22
                          try clear qi22
                          try clear p23
                          try clear q23
                          try clear hx23
                          try clear qi23
                          try clear c24
                          try clear c24b0
                          try clear c24b1
                          try clear c31
                          try clear c31b0
                          try clear c31b1
                          try clear c33
                          try clear c34
                          try clear c34b0
                          try clear c34b1
                          try clear c35
                          try clear c35b0
                          try clear c35b1
                          try clear c39
                          try clear q39
                          try clear c42
                          try clear c42b0
                          try clear c42b1
                          try clear c44
                          try clear c45
                          try clear c45b0
                          try clear c45b1
                          try clear c46
                          try clear c46b0
                          try clear c46b1
                          try clear c50
                          try clear q50
                          try clear c53
                          try clear c53b0
                          try clear c53b1
                          try clear hx229_0
                          try clear hx235_0
                          try clear p2
                          try clear p22
                          try clear p229
                          try clear p235
                          try clear q2
                          try clear q22
                          try clear q229
                          try clear q235
                          try clear q3
                          try clear q39
                          try clear q50
                          obtain ⟨kq, x61_51, rfl, HA, HJ51, HO_5, HB⟩ := hcut
                          cases kq with
                          | zero => exact absurd HA.out (by simp [impl_MakeList.j2])
                          | succ kj51 =>
                            have H := HA.out
                            clear HA
                            simp only [impl_MakeList.j2] at H
                            by_cases c55 : x61_51 = true
                            · subst c55
                              have H1 : (if 0 < (t221.length : Int) then (if 1 < (t221.length : Int) then (if 2 < (t221.length : Int) then ((xansi_ExtendedCursorPositionReport.f kj51 (rd t221 0) (rd t221 1) (rd t221 2)).bind fun t244 => (some t244)) else (none)) else (none)) else (none)) = some r := by rw [if_pos rfl] at H; exact H
                              clear H
                              have H := H1
                              clear H1
                              by_cases c56 : 0 < (t221.length : Int)
                              · rw [if_pos c56] at H
                                have c56b0 : decide (0 < (t221.length : Int)) = true := decide_eq_true c56
                                have c56b1 : decide (0 < t221.length) = true := decide_eq_true (by omega)
                                clear c56
                                by_cases c57 : 1 < (t221.length : Int)
                                · rw [if_pos c57] at H
                                  have c57b0 : decide (1 < (t221.length : Int)) = true := decide_eq_true c57
                                  have c57b1 : decide (1 < t221.length) = true := decide_eq_true (by omega)
                                  clear c57
                                  by_cases c58 : 2 < (t221.length : Int)
                                  · rw [if_pos c58] at H
                                    have c58b0 : decide (2 < (t221.length : Int)) = true := decide_eq_true c58
                                    have c58b1 : decide (2 < t221.length) = true := decide_eq_true (by omega)
                                    clear c58
                                    replace H := Option.bind_eq_some_iff.mp H
                                    obtain ⟨t244, A590, H⟩ := H
                                    replace H : (some t244) = some r := H
                                    have A59 := Aside0.mk A590
                                    clear A590
                                    obtain rfl := Option.some.inj H
                                    try go_wp2
                                    have n0_ := Aside0.mk (Kd.R_drew HO_5.out)
                                    have n1_ := Aside0.mk (below_drew1 HB.out)
                                    clear HO_5
                                    clear HB
                                    have HO_5 := n0_
                                    have HB := n1_
                                    clear n0_ n1_
                                    obtain ⟨Ao61, co61, eo61⟩ := Kd.R_slice HO_5.out
                                    (first | subst eo61 | (injection eo61 with f1_ f2_ f3_; have f4_ := f1_.symm; have f5_ := f3_.symm; clear f1_ f2_ f3_; subst f4_; subst f5_))
                                    have p241 : 0 ≤ (0 : Int) := (by omega)
                                    have q241 : 0 < (t221.length : Int) := of_decide_eq_true (by first | (with_reducible assumption) | assumption)
                                    obtain ⟨ad241, e241, hx241_0⟩ := Kd.at_int (Kd.R_reads' HO_5.out).2.2 0 p241 q241
                                    cases e241
                                    have qi241 : (0 < t221.length) = True := eq_true (by omega)
                                    (try rw [show ((0 : Int)).toNat = 0 from rfl] at hx241_0)
                                    (try rw [Addr.add_zero'] at hx241_0)
                                    replace p241 := eq_true p241
                                    replace q241 := eq_true q241
                                    have p242 : 0 ≤ (1 : Int) := (by omega)
                                    have q242 : 1 < (t221.length : Int) := of_decide_eq_true (by first | (with_reducible assumption) | assumption)
                                    obtain ⟨ad242, e242, hx242_0⟩ := Kd.at_int (Kd.R_reads' HO_5.out).2.2 1 p242 q242
                                    obtain rfl : ad241 = ad242 := (by injection e242)
                                    (try simp only [show (1 : Int).toNat = 1 from rfl, Nat.reduceMul, Nat.reduceEqDiff, Go.Addr.add, ↓reduceIte] at hx242_0)
                                    have qi242 : (1 < t221.length) = True := eq_true (by omega)
                                    (try rw [show ((1 : Int)).toNat = 1 from rfl] at hx242_0)
                                    replace p242 := eq_true p242
                                    replace q242 := eq_true q242
                                    have p243 : 0 ≤ (2 : Int) := (by omega)
                                    have q243 : 2 < (t221.length : Int) := of_decide_eq_true (by first | (with_reducible assumption) | assumption)
                                    obtain ⟨ad243, e243, hx243_0⟩ := Kd.at_int (Kd.R_reads' HO_5.out).2.2 2 p243 q243
                                    obtain rfl : ad241 = ad243 := (by injection e243)
                                    (try simp only [show (2 : Int).toNat = 2 from rfl, Nat.reduceMul, Nat.reduceEqDiff, Go.Addr.add, ↓reduceIte] at hx243_0)
                                    have qi243 : (2 < t221.length) = True := eq_true (by omega)
                                    (try rw [show ((2 : Int)).toNat = 2 from rfl] at hx243_0)
                                    replace p243 := eq_true p243
                                    replace q243 := eq_true q243
                                    refine start_ (n := 11) (S := fun w' => w'.cell? ad241 = some (.int .i64 (rd t221 0)) ∧ w'.cell? ⟨ad241.block, ad241.off + 1, none⟩ = some (.int .i64 (rd t221 1)) ∧ w'.cell? ⟨ad241.block, ad241.off + 2, none⟩ = some (.int .i64 (rd t221 2))) (ds := []) #[false, false, false, false, false, false, false, false, false, false, false] (by kernel_rfl) rfl rfl ⟨hx241_0, hx242_0, hx243_0⟩ (fun hHeld => ?_); refine with_tabW impl_MakeList.tab17 impl_MakeList.bits17 (fun HT_ HW_ => ?_)
                                    generalize wc.drew = w60 at HO_5 HB hx241_0 hx242_0 hx243_0 hHeld ⊢
                                    refine pure_ (i := 0) (N := some 69) (v := ?_) (a' := ?_) #[true, false, false, false, false, false, false, false, false, false, false] rfl rfl (any_of HT_.out (by kernel_rfl)) (fun _ _ _ h => h) (Or.inl ⟨by rfl, ?_⟩) ?_ ?_
                                    rotate_left
                                    · intro w'
                                      go_simp
                                      with_reducible rfl
                                    rotate_left
                                    · simp only [Act.put, List.setIfInBounds_toArray, List.set_cons_zero, List.set_cons_succ, i64_w, i32_w]
                                      rfl
                                    refine pure_ (i := 1) (N := some 70) (v := ?_) (a' := ?_) #[true, true, false, false, false, false, false, false, false, false, false] rfl rfl (any_of HT_.out (by kernel_rfl)) (fun _ _ _ h => h) (Or.inl ⟨by rfl, ?_⟩) ?_ ?_
                                    rotate_left
                                    · intro w'
                                      go_simp
                                      with_reducible rfl
                                    rotate_left
                                    · simp only [Act.put, List.setIfInBounds_toArray, List.set_cons_zero, List.set_cons_succ, i64_w, i32_w]
                                      rfl
                                    refine pure_ (i := 3) (N := some 72) (v := ?_) (a' := ?_) #[true, true, false, true, false, false, false, false, false, false, false] rfl rfl (any_of HT_.out (by kernel_rfl)) (fun _ _ _ h => h) (Or.inl ⟨by rfl, ?_⟩) ?_ ?_
                                    rotate_left
                                    · intro w'
                                      go_simp
                                      with_reducible rfl
                                    rotate_left
                                    · simp only [Act.put, List.setIfInBounds_toArray, List.set_cons_zero, List.set_cons_succ, i64_w, i32_w]
                                      rfl
                                    refine pure_ (i := 4) (N := some 73) (v := ?_) (a' := ?_) #[true, true, false, true, true, false, false, false, false, false, false] rfl rfl (any_of HT_.out (by kernel_rfl)) (fun _ _ _ h => h) (Or.inl ⟨by rfl, ?_⟩) ?_ ?_
                                    rotate_left
                                    · intro w'
                                      go_simp
                                      with_reducible rfl
                                    rotate_left
                                    · simp only [Act.put, List.setIfInBounds_toArray, List.set_cons_zero, List.set_cons_succ, i64_w, i32_w]
                                      rfl
                                    refine pure_ (i := 6) (N := some 75) (v := ?_) (a' := ?_) #[true, true, false, true, true, false, true, false, false, false, false] rfl rfl (any_of HT_.out (by kernel_rfl)) (fun _ _ _ h => h) (Or.inl ⟨by rfl, ?_⟩) ?_ ?_
                                    rotate_left
                                    · intro w'
                                      go_simp
                                      with_reducible rfl
                                    rotate_left
                                    · simp only [Act.put, List.setIfInBounds_toArray, List.set_cons_zero, List.set_cons_succ, i64_w, i32_w]
                                      rfl
                                    refine pure_ (i := 7) (N := some 76) (v := ?_) (a' := ?_) #[true, true, false, true, true, false, true, true, false, false, false] rfl rfl (any_of HT_.out (by kernel_rfl)) (fun _ _ _ h => h) (Or.inl ⟨by rfl, ?_⟩) ?_ ?_
                                    rotate_left
                                    · intro w'
                                      go_simp
                                      with_reducible rfl
                                    rotate_left
                                    · simp only [Act.put, List.setIfInBounds_toArray, List.set_cons_zero, List.set_cons_succ, i64_w, i32_w]
                                      rfl
                                    refine take_ (i := 2) (N := some 71) (v := ?_) (a' := ?_) #[true, true, true, true, true, false, true, true, false, false, false] rfl rfl (take_ofW HT_.out HW_.out (by kernel_rfl)) (fun _ _ _ h => h) (Or.inl ⟨by rfl, ?_⟩) hHeld ?_ ?_
                                    rotate_left
                                    · rintro w' ⟨s0, s1, s2⟩
                                      go_simp
                                      with_reducible rfl
                                    rotate_left
                                    · simp only [Act.put, List.setIfInBounds_toArray, List.set_cons_zero, List.set_cons_succ, i64_w, i32_w]
                                      rfl
                                    refine take_ (i := 5) (N := some 74) (v := ?_) (a' := ?_) #[true, true, true, true, true, true, true, true, false, false, false] rfl rfl (take_ofW HT_.out HW_.out (by kernel_rfl)) (fun _ _ _ h => h) (Or.inl ⟨by rfl, ?_⟩) hHeld ?_ ?_
                                    rotate_left
                                    · rintro w' ⟨s0, s1, s2⟩
                                      go_simp
                                      with_reducible rfl
                                    rotate_left
                                    · simp only [Act.put, List.setIfInBounds_toArray, List.set_cons_zero, List.set_cons_succ, i64_w, i32_w]
                                      rfl
                                    refine take_ (i := 8) (N := some 77) (v := ?_) (a' := ?_) #[true, true, true, true, true, true, true, true, true, false, false] rfl rfl (take_ofW HT_.out HW_.out (by kernel_rfl)) (fun _ _ _ h => h) (Or.inl ⟨by rfl, ?_⟩) hHeld ?_ ?_
                                    rotate_left
                                    · rintro w' ⟨s0, s1, s2⟩
                                      go_simp
                                      with_reducible rfl
                                    rotate_left
                                    · simp only [Act.put, List.setIfInBounds_toArray, List.set_cons_zero, List.set_cons_succ, i64_w, i32_w]
                                      rfl
                                    refine one_ (i := 9) (N := some 78) #[true, true, true, true, true, true, true, true, true, true, false] rfl rfl (one_of HT_.out (by kernel_rfl)) (by decide) (fun K hK => ?_)
                                    refine goes_ Tryd.func91 (by kernel_rfl) rfl #[.int .i64 (rd t221 0), .int .i64 (rd t221 1), .int .i64 (rd t221 2)] (by rfl) rfl rfl (by (try simp only [List.map_toArray, List.map_cons, List.map_nil]); first | done | rfl | (simp only [List.length_drop, List.length_take]; rfl) | (simp [Act.eval, *]; done)) ?_
                                    with_reducible refine (xansi_ExtendedCursorPositionReport.calls kj51 (rd t221 0) (rd t221 1) (rd t221 2) t244 _ ?side1 A59.out).mono ?_
                                    (case side1 => exact HLD.out.below (by repeat (first | (with_reducible first | exact HB.out | apply below_alloc | apply Ext.below_bytes | apply pw_below_drewN | apply below_drew1) | exact HB.out)))
                                    rintro e w62 ⟨rfl, hb⟩
                                    have HS0_ := (hb.cell (World.block_lt_of_cell? _ _ (hHeld.1))).trans (hHeld.1)
                                    have HS1_ := (hb.cell (World.block_lt_of_cell? _ _ (hHeld.2.1))).trans (hHeld.2.1)
                                    have HS2_ := (hb.cell (World.block_lt_of_cell? _ _ (hHeld.2.2))).trans (hHeld.2.2)
                                    refine ⟨_, rfl, ?_⟩
                                    have n0_ := Aside0.mk (Kd.R_below (by (with_reducible repeat (first | apply Kd.R_alloc | apply Ext.R_bytes | apply Kd.R_drewN | apply Kd.R_drew)); exact HO_5.out) hb)
                                    have n1_ := Aside0.mk (below_step (by repeat (first | (with_reducible first | exact HB.out | apply below_alloc | apply Ext.below_bytes | apply pw_below_drewN | apply below_drew1) | exact HB.out)) hb)
                                    clear HO_5
                                    clear HB
                                    have HO_5 := n0_
                                    have HB := n1_
                                    clear n0_ n1_
                                    (try clear hb)
                                    (try clear hb2)
                                    (try clear hk)
                                    (try clear hi)
                                    refine hK.out _ _ ⟨HS0_, HS1_, HS2_⟩ (fun hHeld => ?_)
                                    clear hK K
                                    refine norm_ (a' := ?_) ?_ ?_
                                    rotate_left
                                    · show Act.put _ (some 78) _ = _
                                      simp only [Act.put, List.setIfInBounds_toArray, List.set_cons_zero, List.set_cons_succ, i64_w, i32_w]
                                      rfl
                                    refine pure_ (i := 10) (N := some 4) (v := ?_) (a' := ?_) #[true, true, true, true, true, true, true, true, true, true, true] rfl rfl (any_of HT_.out (by kernel_rfl)) (fun _ _ _ h => h) (Or.inl ⟨by rfl, ?_⟩) ?_ ?_
                                    rotate_left
                                    · intro w'
                                      go_simp
                                      with_reducible rfl
                                    rotate_left
                                    · simp only [Act.put, List.setIfInBounds_toArray, List.set_cons_zero, List.set_cons_succ, i64_w, i32_w]
                                      rfl
                                    refine done_ (done_of HT_.out (by kernel_rfl)) ?_
                                    try go_wp2
                                    go_ret
                                    exact ⟨by first | rfl | (simp [errW_none, errW_some] <;> rfl) | (simp [*, errW_none, errW_some] <;> rfl), by repeat (first | (with_reducible first | exact HB.out | apply below_alloc | apply Ext.below_bytes | apply pw_below_drewN | apply below_drew1) | exact HB.out)⟩
                                  · rw [if_neg c58] at H
                                    exact absurd H (by simp)
                                · rw [if_neg c57] at H
                                  exact absurd H (by simp)
                              · rw [if_neg c56] at H
                                exact absurd H (by simp)
                            · replace c55 := Bool.eq_false_iff.mpr c55
                              subst c55
                              have H1 : (if a0 = 8 then (if (t221.length : Int) = 4 then (if 0 < (t221.length : Int) then (if 1 < (t221.length : Int) then (if 2 < (t221.length : Int) then (if 3 < (t221.length : Int) then ((xansi_InBandResize.f kj51 (rd t221 0) (rd t221 1) (rd t221 2) (rd t221 3)).bind fun t249 => (some t249)) else (none)) else (none)) else (none)) else (none)) else (some (⟨#[]⟩ : ByteArray))) else (some (⟨#[]⟩ : ByteArray))) = some r := by rw [if_neg (show ¬ (false = true) by decide)] at H; exact H
                              clear H
                              have H := H1
                              clear H1
                              by_cases c63 : a0 = 8
                              · rw [if_pos c63] at H
                                have c63b0 : (a0 == 8) = true := beq_iff_eq.mpr c63
                                have c63b1 : (a0 != 8) = false := bne_eq_false_iff_eq.mpr c63
                                clear c63
                                by_cases c64 : (t221.length : Int) = 4
                                · rw [if_pos c64] at H
                                  have c64b0 : ((t221.length : Int) == 4) = true := beq_iff_eq.mpr c64
                                  have c64b1 : ((t221.length : Int) != 4) = false := bne_eq_false_iff_eq.mpr c64
                                  clear c64
                                  by_cases c65 : 0 < (t221.length : Int)
                                  · rw [if_pos c65] at H
                                    have c65b0 : decide (0 < (t221.length : Int)) = true := decide_eq_true c65
                                    have c65b1 : decide (0 < t221.length) = true := decide_eq_true (by omega)
                                    clear c65
                                    by_cases c66 : 1 < (t221.length : Int)
                                    · rw [if_pos c66] at H
                                      have c66b0 : decide (1 < (t221.length : Int)) = true := decide_eq_true c66
                                      have c66b1 : decide (1 < t221.length) = true := decide_eq_true (by omega)
                                      clear c66
                                      by_cases c67 : 2 < (t221.length : Int)
                                      · rw [if_pos c67] at H
                                        have c67b0 : decide (2 < (t221.length : Int)) = true := decide_eq_true c67
                                        have c67b1 : decide (2 < t221.length) = true := decide_eq_true (by omega)
                                        clear c67
                                        by_cases c68 : 3 < (t221.length : Int)
                                        · rw [if_pos c68] at H
                                          have c68b0 : decide (3 < (t221.length : Int)) = true := decide_eq_true c68
                                          have c68b1 : decide (3 < t221.length) = true := decide_eq_true (by omega)
                                          clear c68
                                          replace H := Option.bind_eq_some_iff.mp H
                                          obtain ⟨t249, A690, H⟩ := H
                                          replace H : (some t249) = some r := H
                                          have A69 := Aside0.mk A690
                                          clear A690
                                          obtain rfl := Option.some.inj H
                                          obtain ⟨Ao70, co70, eo70⟩ := Kd.R_slice HO_5.out
                                          subst eo70
                                          try go_wp2
                                          have n0_ := Aside0.mk (Kd.R_drew HO_5.out)
                                          have n1_ := Aside0.mk (below_drew1 HB.out)
                                          clear HO_5
                                          clear HB
                                          have HO_5 := n0_
                                          have HB := n1_
                                          clear n0_ n1_
                                          have p245 : 0 ≤ (0 : Int) := (by omega)
                                          have q245 : 0 < (t221.length : Int) := of_decide_eq_true (by first | (with_reducible assumption) | assumption)
                                          obtain ⟨ad245, e245, hx245_0⟩ := Kd.at_int (Kd.R_reads' HO_5.out).2.2 0 p245 q245
                                          cases e245
                                          have qi245 : (0 < t221.length) = True := eq_true (by omega)
                                          (try rw [show ((0 : Int)).toNat = 0 from rfl] at hx245_0)
                                          (try rw [Addr.add_zero'] at hx245_0)
                                          replace p245 := eq_true p245
                                          replace q245 := eq_true q245
                                          have p246 : 0 ≤ (1 : Int) := (by omega)
                                          have q246 : 1 < (t221.length : Int) := of_decide_eq_true (by first | (with_reducible assumption) | assumption)
                                          obtain ⟨ad246, e246, hx246_0⟩ := Kd.at_int (Kd.R_reads' HO_5.out).2.2 1 p246 q246
                                          obtain rfl : ad245 = ad246 := (by injection e246)
                                          (try simp only [show (1 : Int).toNat = 1 from rfl, Nat.reduceMul, Nat.reduceEqDiff, Go.Addr.add, ↓reduceIte] at hx246_0)
                                          have qi246 : (1 < t221.length) = True := eq_true (by omega)
                                          (try rw [show ((1 : Int)).toNat = 1 from rfl] at hx246_0)
                                          replace p246 := eq_true p246
                                          replace q246 := eq_true q246
                                          have p247 : 0 ≤ (2 : Int) := (by omega)
                                          have q247 : 2 < (t221.length : Int) := of_decide_eq_true (by first | (with_reducible assumption) | assumption)
                                          obtain ⟨ad247, e247, hx247_0⟩ := Kd.at_int (Kd.R_reads' HO_5.out).2.2 2 p247 q247
                                          obtain rfl : ad245 = ad247 := (by injection e247)
                                          (try simp only [show (2 : Int).toNat = 2 from rfl, Nat.reduceMul, Nat.reduceEqDiff, Go.Addr.add, ↓reduceIte] at hx247_0)
                                          have qi247 : (2 < t221.length) = True := eq_true (by omega)
                                          (try rw [show ((2 : Int)).toNat = 2 from rfl] at hx247_0)
                                          replace p247 := eq_true p247
                                          replace q247 := eq_true q247
                                          have p248 : 0 ≤ (3 : Int) := (by omega)
                                          have q248 : 3 < (t221.length : Int) := of_decide_eq_true (by first | (with_reducible assumption) | assumption)
                                          obtain ⟨ad248, e248, hx248_0⟩ := Kd.at_int (Kd.R_reads' HO_5.out).2.2 3 p248 q248
                                          obtain rfl : ad245 = ad248 := (by injection e248)
                                          (try simp only [show (3 : Int).toNat = 3 from rfl, Nat.reduceMul, Nat.reduceEqDiff, Go.Addr.add, ↓reduceIte] at hx248_0)
                                          have qi248 : (3 < t221.length) = True := eq_true (by omega)
                                          (try rw [show ((3 : Int)).toNat = 3 from rfl] at hx248_0)
                                          replace p248 := eq_true p248
                                          replace q248 := eq_true q248
                                          refine start_ (n := 14) (S := fun w' => w'.cell? ad245 = some (.int .i64 (rd t221 0)) ∧ w'.cell? ⟨ad245.block, ad245.off + 1, none⟩ = some (.int .i64 (rd t221 1)) ∧ w'.cell? ⟨ad245.block, ad245.off + 2, none⟩ = some (.int .i64 (rd t221 2)) ∧ w'.cell? ⟨ad245.block, ad245.off + 3, none⟩ = some (.int .i64 (rd t221 3))) (ds := []) #[false, false, false, false, false, false, false, false, false, false, false, false, false, false] (by kernel_rfl) rfl rfl ⟨hx245_0, hx246_0, hx247_0, hx248_0⟩ (fun hHeld => ?_); refine with_tabW impl_MakeList.tab19 impl_MakeList.bits19 (fun HT_ HW_ => ?_)
                                          generalize wc.drew = w71 at HO_5 HB hx245_0 hx246_0 hx247_0 hx248_0 hHeld ⊢
                                          refine pure_ (i := 0) (N := some 87) (v := ?_) (a' := ?_) #[true, false, false, false, false, false, false, false, false, false, false, false, false, false] rfl rfl (any_of HT_.out (by kernel_rfl)) (fun _ _ _ h => h) (Or.inl ⟨by rfl, ?_⟩) ?_ ?_
                                          rotate_left
                                          · intro w'
                                            go_simp
                                            with_reducible rfl
                                          rotate_left
                                          · simp only [Act.put, List.setIfInBounds_toArray, List.set_cons_zero, List.set_cons_succ, i64_w, i32_w]
                                            rfl
                                          refine pure_ (i := 1) (N := some 88) (v := ?_) (a' := ?_) #[true, true, false, false, false, false, false, false, false, false, false, false, false, false] rfl rfl (any_of HT_.out (by kernel_rfl)) (fun _ _ _ h => h) (Or.inl ⟨by rfl, ?_⟩) ?_ ?_
                                          rotate_left
                                          · intro w'
                                            go_simp
                                            with_reducible rfl
                                          rotate_left
                                          · simp only [Act.put, List.setIfInBounds_toArray, List.set_cons_zero, List.set_cons_succ, i64_w, i32_w]
                                            rfl
                                          refine pure_ (i := 3) (N := some 90) (v := ?_) (a' := ?_) #[true, true, false, true, false, false, false, false, false, false, false, false, false, false] rfl rfl (any_of HT_.out (by kernel_rfl)) (fun _ _ _ h => h) (Or.inl ⟨by rfl, ?_⟩) ?_ ?_
                                          rotate_left
                                          · intro w'
                                            go_simp
                                            with_reducible rfl
                                          rotate_left
                                          · simp only [Act.put, List.setIfInBounds_toArray, List.set_cons_zero, List.set_cons_succ, i64_w, i32_w]
                                            rfl
                                          refine pure_ (i := 4) (N := some 91) (v := ?_) (a' := ?_) #[true, true, false, true, true, false, false, false, false, false, false, false, false, false] rfl rfl (any_of HT_.out (by kernel_rfl)) (fun _ _ _ h => h) (Or.inl ⟨by rfl, ?_⟩) ?_ ?_
                                          rotate_left
                                          · intro w'
                                            go_simp
                                            with_reducible rfl
                                          rotate_left
                                          · simp only [Act.put, List.setIfInBounds_toArray, List.set_cons_zero, List.set_cons_succ, i64_w, i32_w]
                                            rfl
                                          refine pure_ (i := 6) (N := some 93) (v := ?_) (a' := ?_) #[true, true, false, true, true, false, true, false, false, false, false, false, false, false] rfl rfl (any_of HT_.out (by kernel_rfl)) (fun _ _ _ h => h) (Or.inl ⟨by rfl, ?_⟩) ?_ ?_
                                          rotate_left
                                          · intro w'
                                            go_simp
                                            with_reducible rfl
                                          rotate_left
                                          · simp only [Act.put, List.setIfInBounds_toArray, List.set_cons_zero, List.set_cons_succ, i64_w, i32_w]
                                            rfl
                                          refine pure_ (i := 7) (N := some 94) (v := ?_) (a' := ?_) #[true, true, false, true, true, false, true, true, false, false, false, false, false, false] rfl rfl (any_of HT_.out (by kernel_rfl)) (fun _ _ _ h => h) (Or.inl ⟨by rfl, ?_⟩) ?_ ?_
                                          rotate_left
                                          · intro w'
                                            go_simp
                                            with_reducible rfl
                                          rotate_left
                                          · simp only [Act.put, List.setIfInBounds_toArray, List.set_cons_zero, List.set_cons_succ, i64_w, i32_w]
                                            rfl
                                          refine pure_ (i := 9) (N := some 96) (v := ?_) (a' := ?_) #[true, true, false, true, true, false, true, true, false, true, false, false, false, false] rfl rfl (any_of HT_.out (by kernel_rfl)) (fun _ _ _ h => h) (Or.inl ⟨by rfl, ?_⟩) ?_ ?_
                                          rotate_left
                                          · intro w'
                                            go_simp
                                            with_reducible rfl
                                          rotate_left
                                          · simp only [Act.put, List.setIfInBounds_toArray, List.set_cons_zero, List.set_cons_succ, i64_w, i32_w]
                                            rfl
                                          refine pure_ (i := 10) (N := some 97) (v := ?_) (a' := ?_) #[true, true, false, true, true, false, true, true, false, true, true, false, false, false] rfl rfl (any_of HT_.out (by kernel_rfl)) (fun _ _ _ h => h) (Or.inl ⟨by rfl, ?_⟩) ?_ ?_
                                          rotate_left
                                          · intro w'
                                            go_simp
                                            with_reducible rfl
                                          rotate_left
                                          · simp only [Act.put, List.setIfInBounds_toArray, List.set_cons_zero, List.set_cons_succ, i64_w, i32_w]
                                            rfl
                                          refine take_ (i := 2) (N := some 89) (v := ?_) (a' := ?_) #[true, true, true, true, true, false, true, true, false, true, true, false, false, false] rfl rfl (take_ofW HT_.out HW_.out (by kernel_rfl)) (fun _ _ _ h => h) (Or.inl ⟨by rfl, ?_⟩) hHeld ?_ ?_
                                          rotate_left
                                          · rintro w' ⟨s0, s1, s2, s3⟩
                                            go_simp
                                            with_reducible rfl
                                          rotate_left
                                          · simp only [Act.put, List.setIfInBounds_toArray, List.set_cons_zero, List.set_cons_succ, i64_w, i32_w]
                                            rfl
                                          refine take_ (i := 5) (N := some 92) (v := ?_) (a' := ?_) #[true, true, true, true, true, true, true, true, false, true, true, false, false, false] rfl rfl (take_ofW HT_.out HW_.out (by kernel_rfl)) (fun _ _ _ h => h) (Or.inl ⟨by rfl, ?_⟩) hHeld ?_ ?_
                                          rotate_left
                                          · rintro w' ⟨s0, s1, s2, s3⟩
                                            go_simp
                                            with_reducible rfl
                                          rotate_left
                                          · simp only [Act.put, List.setIfInBounds_toArray, List.set_cons_zero, List.set_cons_succ, i64_w, i32_w]
                                            rfl
                                          refine take_ (i := 8) (N := some 95) (v := ?_) (a' := ?_) #[true, true, true, true, true, true, true, true, true, true, true, false, false, false] rfl rfl (take_ofW HT_.out HW_.out (by kernel_rfl)) (fun _ _ _ h => h) (Or.inl ⟨by rfl, ?_⟩) hHeld ?_ ?_
                                          rotate_left
                                          · rintro w' ⟨s0, s1, s2, s3⟩
                                            go_simp
                                            with_reducible rfl
                                          rotate_left
                                          · simp only [Act.put, List.setIfInBounds_toArray, List.set_cons_zero, List.set_cons_succ, i64_w, i32_w]
                                            rfl
                                          refine take_ (i := 11) (N := some 98) (v := ?_) (a' := ?_) #[true, true, true, true, true, true, true, true, true, true, true, true, false, false] rfl rfl (take_ofW HT_.out HW_.out (by kernel_rfl)) (fun _ _ _ h => h) (Or.inl ⟨by rfl, ?_⟩) hHeld ?_ ?_
                                          rotate_left
                                          · rintro w' ⟨s0, s1, s2, s3⟩
                                            go_simp
                                            with_reducible rfl
                                          rotate_left
                                          · simp only [Act.put, List.setIfInBounds_toArray, List.set_cons_zero, List.set_cons_succ, i64_w, i32_w]
                                            rfl
                                          refine one_ (i := 12) (N := some 99) #[true, true, true, true, true, true, true, true, true, true, true, true, true, false] rfl rfl (one_of HT_.out (by kernel_rfl)) (by decide) (fun K hK => ?_)
                                          refine goes_ Tryd.func92 (by kernel_rfl) rfl #[.int .i64 (rd t221 0), .int .i64 (rd t221 1), .int .i64 (rd t221 2), .int .i64 (rd t221 3)] (by rfl) rfl rfl (by (try simp only [List.map_toArray, List.map_cons, List.map_nil]); first | done | rfl | (simp only [List.length_drop, List.length_take]; rfl) | (simp [Act.eval, *]; done)) ?_
                                          with_reducible refine (xansi_InBandResize.calls kj51 (rd t221 0) (rd t221 1) (rd t221 2) (rd t221 3) t249 _ ?side1 A69.out).mono ?_
                                          (case side1 => exact HLD.out.below (by repeat (first | (with_reducible first | exact HB.out | apply below_alloc | apply Ext.below_bytes | apply pw_below_drewN | apply below_drew1) | exact HB.out)))
                                          rintro e w72 ⟨rfl, hb⟩
                                          have HS0_ := (hb.cell (World.block_lt_of_cell? _ _ (hHeld.1))).trans (hHeld.1)
                                          have HS1_ := (hb.cell (World.block_lt_of_cell? _ _ (hHeld.2.1))).trans (hHeld.2.1)
                                          have HS2_ := (hb.cell (World.block_lt_of_cell? _ _ (hHeld.2.2.1))).trans (hHeld.2.2.1)
                                          have HS3_ := (hb.cell (World.block_lt_of_cell? _ _ (hHeld.2.2.2))).trans (hHeld.2.2.2)
                                          refine ⟨_, rfl, ?_⟩
                                          have n0_ := Aside0.mk (Kd.R_below (by (with_reducible repeat (first | apply Kd.R_alloc | apply Ext.R_bytes | apply Kd.R_drewN | apply Kd.R_drew)); exact HO_5.out) hb)
                                          have n1_ := Aside0.mk (below_step (by repeat (first | (with_reducible first | exact HB.out | apply below_alloc | apply Ext.below_bytes | apply pw_below_drewN | apply below_drew1) | exact HB.out)) hb)
                                          clear HO_5
                                          clear HB
                                          have HO_5 := n0_
                                          have HB := n1_
                                          clear n0_ n1_
                                          (try clear hb)
                                          (try clear hb2)
                                          (try clear hk)
                                          (try clear hi)
                                          refine hK.out _ _ ⟨HS0_, HS1_, HS2_, HS3_⟩ (fun hHeld => ?_)
                                          clear hK K
                                          refine norm_ (a' := ?_) ?_ ?_
                                          rotate_left
                                          · show Act.put _ (some 99) _ = _
                                            simp only [Act.put, List.setIfInBounds_toArray, List.set_cons_zero, List.set_cons_succ, i64_w, i32_w]
                                            rfl
                                          refine pure_ (i := 13) (N := some 4) (v := ?_) (a' := ?_) #[true, true, true, true, true, true, true, true, true, true, true, true, true, true] rfl rfl (any_of HT_.out (by kernel_rfl)) (fun _ _ _ h => h) (Or.inl ⟨by rfl, ?_⟩) ?_ ?_
                                          rotate_left
                                          · intro w'
                                            go_simp
                                            with_reducible rfl
                                          rotate_left
                                          · simp only [Act.put, List.setIfInBounds_toArray, List.set_cons_zero, List.set_cons_succ, i64_w, i32_w]
                                            rfl
                                          refine done_ (done_of HT_.out (by kernel_rfl)) ?_
                                          try go_wp2
                                          go_ret
                                          exact ⟨by first | rfl | (simp [errW_none, errW_some] <;> rfl) | (simp [*, errW_none, errW_some] <;> rfl), by repeat (first | (with_reducible first | exact HB.out | apply below_alloc | apply Ext.below_bytes | apply pw_below_drewN | apply below_drew1) | exact HB.out)⟩
                                        · rw [if_neg c68] at H
                                          exact absurd H (by simp)
                                      · rw [if_neg c67] at H
                                        exact absurd H (by simp)
                                    · rw [if_neg c66] at H
                                      exact absurd H (by simp)
                                  · rw [if_neg c65] at H
                                    exact absurd H (by simp)
                                · rw [if_neg c64] at H
                                  have c64b0 : ((t221.length : Int) == 4) = false := beq_eq_false_iff_ne.mpr c64
                                  have c64b1 : ((t221.length : Int) != 4) = true := bne_iff_ne.mpr c64
                                  obtain rfl := Option.some.inj H
                                  obtain ⟨Ao73, co73, eo73⟩ := Kd.R_slice HO_5.out
                                  subst eo73
                                  go_wp2
                                  go_ret
                                  exact ⟨by first | rfl | (simp [errW_none, errW_some] <;> rfl) | (simp [*, errW_none, errW_some] <;> rfl), by repeat (first | (with_reducible first | exact HB.out | apply below_alloc | apply Ext.below_bytes | apply pw_below_drewN | apply below_drew1) | exact HB.out)⟩
                              · rw [if_neg c63] at H
                                have c63b0 : (a0 == 8) = false := beq_eq_false_iff_ne.mpr c63
                                have c63b1 : (a0 != 8) = true := bne_iff_ne.mpr c63
                                obtain rfl := Option.some.inj H
                                go_wp2
                                go_ret
                                exact ⟨by first | rfl | (simp [errW_none, errW_some] <;> rfl) | (simp [*, errW_none, errW_some] <;> rfl), by repeat (first | (with_reducible first | exact HB.out | apply below_alloc | apply Ext.below_bytes | apply pw_below_drewN | apply below_drew1) | exact HB.out)⟩

end Go.Proofs.YtplmmblofhhikaaDoor.PM
