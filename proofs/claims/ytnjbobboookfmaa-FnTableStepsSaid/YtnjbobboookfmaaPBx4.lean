-- Written by wip/pp.py, a program of this session, out of the translation. Not trusted: Lean checks it.
import Derived.Test.YtnjbobboookfmaaPBx0
import Derived.Test.YtnjbobboookfmaaPBx1
import Derived.Test.YtnjbobboookfmaaPBx2
import Derived.Test.YtnjbobboookfmaaPBx3
namespace Go.Proofs.Ytnjbobboookfmaa.PB
open Go.RowKit Go.Proofs.Ytnjbobboookfmaa.Or Go.Proofs.YtnjbobboookfmaaW.PrintWords Go.Proofs.YtnjbobboookfmaaW.PrintLast Go.Proofs.YtnjbobboookfmaaW.PrintMore
attribute [local go_sem] max2_int min2_int max_two min_two max_three min_three max_four min_four   -- for this text's walks alone
attribute [local go_sem] Go.Proofs.Ytnjbobboookfmaa.Ext.wrap64_mod256 Go.Proofs.Ytnjbobboookfmaa.Ext.wrap64_mod32 Go.Proofs.Ytnjbobboookfmaa.Ext.i64_mod256 Go.Proofs.Ytnjbobboookfmaa.Ext.i64_mod32 Go.Proofs.Ytnjbobboookfmaa.Ext.i64_u8 Go.Proofs.Ytnjbobboookfmaa.Ext.w64_u8 Go.Proofs.Ytnjbobboookfmaa.Ext.i64_u32 Go.Proofs.Ytnjbobboookfmaa.Ext.w64_u32 
set_option linter.unusedVariables false
set_option linter.unusedSimpArgs false

/-! ### laws_FnTableSteps: function 3 -/
mutual
def laws_FnTableSteps.j0 : Nat → List (S27) → List Int → List Int → Bool → Option (Bool)
  | 0, _, _, _, _ => none
  | k + 1, x0, x1, x2, x30 => if x30 = true then (some true) else (if (x0.length : Int) > 20 then (laws_FnTableSteps.j1 k x0 x1 x2 true) else (if (x1.length : Int) > 100 then (laws_FnTableSteps.j1 k x0 x1 x2 true) else (laws_FnTableSteps.j1 k x0 x1 x2 (decide ((x2.length : Int) < (x1.length : Int))))))
def laws_FnTableSteps.j1 : Nat → List (S27) → List Int → List Int → Bool → Option (Bool)
  | 0, _, _, _, _ => none
  | k + 1, x0, x1, x2, x45 => if x45 = true then (some true) else (laws_FnTableSteps.l0 k x0 x1 x2 ([] : List (S30)) x0 (x0.length : Int) 0)
def laws_FnTableSteps.l0 : Nat → List (S27) → List Int → List Int → List (S30) → List (S27) → Int → Int → Option (Bool)
  | 0, _, _, _, _, _, _, _ => none
  | k + 1, x0, x1, x2, x7, x46, x47, x48 => if x48 < x47 then (if 0 ≤ x48 then (if x48 < (x46.length : Int) then (if ((rd_T27 x46 x48).f0) < 0 then (some true) else (if ((rd_T27 x46 x48).f0) > 3 then (some true) else (if ((rd_T27 x46 x48).f1) > 15 then (some true) else (if ((rd_T27 x46 x48).f5) > 15 then (some true) else (if ((rd_T27 x46 x48).f6) > 15 then (some true) else (if (((rd_T27 x46 x48).f4).length : Int) > 300 then (some true) else ((bytes_Clone.f ((rd_T27 x46 x48).f4)).bind fun t152 => (if x7.length < 3518437208883 then (laws_FnTableSteps.l0 k x0 x1 x2 (x7 ++ [(⟨(rd_T27 x46 x48).f0, (rd_T27 x46 x48).f2, (rd_T27 x46 x48).f3, (rd_T27 x46 x48).f1, (rd_T27 x46 x48).f5, (rd_T27 x46 x48).f6, t152⟩ : S30)]) x46 x47 (wrap64 (x48 + 1))) else (none))))))))) else (none)) else (none)) else (laws_FnTableSteps.l1 k x0 x1 x2 x7 (([(⟨1, 65⟩ : S32)] : List (S32))) (x1.length : Int) 0)
def laws_FnTableSteps.l1 : Nat → List (S27) → List Int → List Int → List (S30) → List (S32) → Int → Int → Option (Bool)
  | 0, _, _, _, _, _, _, _ => none
  | k + 1, x0, x1, x2, x7, x10, x104, x105 => if x105 < x104 then (if 0 ≤ x105 then (if x105 < (x1.length : Int) then (if x105 < (x2.length : Int) then (if x10.length < 70368744177664 then (laws_FnTableSteps.l1 k x0 x1 x2 x7 (x10 ++ [(⟨Int.tmod (rd x1 x105) 16, rd x2 x105⟩ : S32)]) x104 (wrap64 (x105 + 1))) else (none)) else (none)) else (none)) else (none)) else (if x7.length < 3518437208883 then (if ([] : List (S27)).length + x0.length < 2932031007402 then ((some (([] : List (S27)) ++ x0 : List (S27))).bind fun y169 => (if y169.length < 2932031007402 then ((impl_TableRun.f k (x7 ++ [(⟨1, 65, 0, 1, 3, 2, ([] : List Int)⟩ : S30)]) x10).bind fun t175 => ((spec_TableOf.f k (y169 ++ [(⟨1, 1, 65, 0, ([] : List Int), 3, 2⟩ : S27)])).bind fun t178 => (if (t175.length : Int) = (x10.length : Int) then (laws_FnTableSteps.l2 k t175 t178 x10 (x10.length : Int) 0) else (some false)))) else (none))) else (none)) else (none))
def laws_FnTableSteps.l2 : Nat → List (S39) → List Int → List (S32) → Int → Int → Option (Bool)
  | 0, _, _, _, _, _ => none
  | k + 1, x13, x14, x141, x142, x143 => if x143 < x142 then (if 0 ≤ x143 then (if x143 < (x141.length : Int) then (if 0 ≤ (Go.bits .or .i64 (wrap64 ((wrap64 ((rd_T32 x141 x143).f0)) * 256)) (wrap64 ((rd_T32 x141 x143).f1))) then (if (Go.bits .or .i64 (wrap64 ((wrap64 ((rd_T32 x141 x143).f0)) * 256)) (wrap64 ((rd_T32 x141 x143).f1))) < (x14.length : Int) then (if x143 < (x13.length : Int) then (if ((rd_T39 x13 x143).f0) = (Go.bits .and .u8 (rd x14 (Go.bits .or .i64 (wrap64 ((wrap64 ((rd_T32 x141 x143).f0)) * 256)) (wrap64 ((rd_T32 x141 x143).f1)))) 15) then (if ((rd_T39 x13 x143).f1) = ((rd x14 (Go.bits .or .i64 (wrap64 ((wrap64 ((rd_T32 x141 x143).f0)) * 256)) (wrap64 ((rd_T32 x141 x143).f1)))) / 16) then (laws_FnTableSteps.l2 k x13 x14 x141 x142 (wrap64 (x143 + 1))) else (some false)) else (some false)) else (none)) else (none)) else (none)) else (none)) else (none)) else (some true)
end
def laws_FnTableSteps.f (k : Nat) (l0 : List (S27)) (l1 : List Int) (l2 : List Int) : Option (Bool) := (laws_zzFits1.f k l0).bind fun t149 => (if t149 = true then (if (l1.length : Int) > 2147483647 then (laws_FnTableSteps.j0 k l0 l1 l2 true) else (laws_FnTableSteps.j0 k l0 l1 l2 (decide ((l2.length : Int) > 2147483647)))) else (laws_FnTableSteps.j0 k l0 l1 l2 true))
theorem laws_FnTableSteps.mono_l : ∀ k, (∀ y0 y1 y2 y3, LeO (laws_FnTableSteps.j0 k y0 y1 y2 y3) (laws_FnTableSteps.j0 (k + 1) y0 y1 y2 y3)) ∧ (∀ y0 y1 y2 y3, LeO (laws_FnTableSteps.j1 k y0 y1 y2 y3) (laws_FnTableSteps.j1 (k + 1) y0 y1 y2 y3)) ∧ (∀ y0 y1 y2 y3 y4 y5 y6, LeO (laws_FnTableSteps.l0 k y0 y1 y2 y3 y4 y5 y6) (laws_FnTableSteps.l0 (k + 1) y0 y1 y2 y3 y4 y5 y6)) ∧ (∀ y0 y1 y2 y3 y4 y5 y6, LeO (laws_FnTableSteps.l1 k y0 y1 y2 y3 y4 y5 y6) (laws_FnTableSteps.l1 (k + 1) y0 y1 y2 y3 y4 y5 y6)) ∧ (∀ y0 y1 y2 y3 y4, LeO (laws_FnTableSteps.l2 k y0 y1 y2 y3 y4) (laws_FnTableSteps.l2 (k + 1) y0 y1 y2 y3 y4))
  | 0 => ⟨fun _ _ _ _ r h => by simp [laws_FnTableSteps.j0] at h, fun _ _ _ _ r h => by simp [laws_FnTableSteps.j1] at h, fun _ _ _ _ _ _ _ r h => by simp [laws_FnTableSteps.l0] at h, fun _ _ _ _ _ _ _ r h => by simp [laws_FnTableSteps.l1] at h, fun _ _ _ _ _ r h => by simp [laws_FnTableSteps.l2] at h⟩
  | k + 1 => by
    obtain ⟨ih0, ih1, ih2, ih3, ih4⟩ := laws_FnTableSteps.mono_l k
    refine ⟨?_, ?_, ?_, ?_, ?_⟩
    · intro y0 y1 y2 y3
      unfold laws_FnTableSteps.j0
      repeat' first
      | (with_reducible exact ih0 _ _ _ _)
      | (with_reducible exact ih1 _ _ _ _)
      | (with_reducible exact ih2 _ _ _ _ _ _ _)
      | (with_reducible exact ih3 _ _ _ _ _ _ _)
      | (with_reducible exact ih4 _ _ _ _ _)
      | (with_reducible exact impl_TableRun.mono _ _ _)
      | (with_reducible exact laws_zzFits1.mono _ _)
      | (with_reducible exact spec_TableOf.mono _ _)
      | (with_reducible exact LeO.refl _)
      | (with_reducible exact LeO.none _)
      | (with_reducible refine LeO.ite ?_ ?_)
      | (with_reducible refine LeO.bind ?_ (fun _ => ?_))
      | exact ih0 _ _ _ _
      | exact ih1 _ _ _ _
      | exact ih2 _ _ _ _ _ _ _
      | exact ih3 _ _ _ _ _ _ _
      | exact ih4 _ _ _ _ _
      | exact impl_TableRun.mono _ _ _
      | exact laws_zzFits1.mono _ _
      | exact spec_TableOf.mono _ _
      | exact LeO.none _
      | refine LeO.ite ?_ ?_
      | refine LeO.bind ?_ (fun _ => ?_)
    · intro y0 y1 y2 y3
      unfold laws_FnTableSteps.j1
      repeat' first
      | (with_reducible exact ih0 _ _ _ _)
      | (with_reducible exact ih1 _ _ _ _)
      | (with_reducible exact ih2 _ _ _ _ _ _ _)
      | (with_reducible exact ih3 _ _ _ _ _ _ _)
      | (with_reducible exact ih4 _ _ _ _ _)
      | (with_reducible exact impl_TableRun.mono _ _ _)
      | (with_reducible exact laws_zzFits1.mono _ _)
      | (with_reducible exact spec_TableOf.mono _ _)
      | (with_reducible exact LeO.refl _)
      | (with_reducible exact LeO.none _)
      | (with_reducible refine LeO.ite ?_ ?_)
      | (with_reducible refine LeO.bind ?_ (fun _ => ?_))
      | exact ih0 _ _ _ _
      | exact ih1 _ _ _ _
      | exact ih2 _ _ _ _ _ _ _
      | exact ih3 _ _ _ _ _ _ _
      | exact ih4 _ _ _ _ _
      | exact impl_TableRun.mono _ _ _
      | exact laws_zzFits1.mono _ _
      | exact spec_TableOf.mono _ _
      | exact LeO.none _
      | refine LeO.ite ?_ ?_
      | refine LeO.bind ?_ (fun _ => ?_)
    · intro y0 y1 y2 y3 y4 y5 y6
      unfold laws_FnTableSteps.l0
      repeat' first
      | (with_reducible exact ih0 _ _ _ _)
      | (with_reducible exact ih1 _ _ _ _)
      | (with_reducible exact ih2 _ _ _ _ _ _ _)
      | (with_reducible exact ih3 _ _ _ _ _ _ _)
      | (with_reducible exact ih4 _ _ _ _ _)
      | (with_reducible exact impl_TableRun.mono _ _ _)
      | (with_reducible exact laws_zzFits1.mono _ _)
      | (with_reducible exact spec_TableOf.mono _ _)
      | (with_reducible exact LeO.refl _)
      | (with_reducible exact LeO.none _)
      | (with_reducible refine LeO.ite ?_ ?_)
      | (with_reducible refine LeO.bind ?_ (fun _ => ?_))
      | exact ih0 _ _ _ _
      | exact ih1 _ _ _ _
      | exact ih2 _ _ _ _ _ _ _
      | exact ih3 _ _ _ _ _ _ _
      | exact ih4 _ _ _ _ _
      | exact impl_TableRun.mono _ _ _
      | exact laws_zzFits1.mono _ _
      | exact spec_TableOf.mono _ _
      | exact LeO.none _
      | refine LeO.ite ?_ ?_
      | refine LeO.bind ?_ (fun _ => ?_)
    · intro y0 y1 y2 y3 y4 y5 y6
      unfold laws_FnTableSteps.l1
      repeat' first
      | (with_reducible exact ih0 _ _ _ _)
      | (with_reducible exact ih1 _ _ _ _)
      | (with_reducible exact ih2 _ _ _ _ _ _ _)
      | (with_reducible exact ih3 _ _ _ _ _ _ _)
      | (with_reducible exact ih4 _ _ _ _ _)
      | (with_reducible exact impl_TableRun.mono _ _ _)
      | (with_reducible exact laws_zzFits1.mono _ _)
      | (with_reducible exact spec_TableOf.mono _ _)
      | (with_reducible exact LeO.refl _)
      | (with_reducible exact LeO.none _)
      | (with_reducible refine LeO.ite ?_ ?_)
      | (with_reducible refine LeO.bind ?_ (fun _ => ?_))
      | exact ih0 _ _ _ _
      | exact ih1 _ _ _ _
      | exact ih2 _ _ _ _ _ _ _
      | exact ih3 _ _ _ _ _ _ _
      | exact ih4 _ _ _ _ _
      | exact impl_TableRun.mono _ _ _
      | exact laws_zzFits1.mono _ _
      | exact spec_TableOf.mono _ _
      | exact LeO.none _
      | refine LeO.ite ?_ ?_
      | refine LeO.bind ?_ (fun _ => ?_)
    · intro y0 y1 y2 y3 y4
      unfold laws_FnTableSteps.l2
      repeat' first
      | (with_reducible exact ih0 _ _ _ _)
      | (with_reducible exact ih1 _ _ _ _)
      | (with_reducible exact ih2 _ _ _ _ _ _ _)
      | (with_reducible exact ih3 _ _ _ _ _ _ _)
      | (with_reducible exact ih4 _ _ _ _ _)
      | (with_reducible exact impl_TableRun.mono _ _ _)
      | (with_reducible exact laws_zzFits1.mono _ _)
      | (with_reducible exact spec_TableOf.mono _ _)
      | (with_reducible exact LeO.refl _)
      | (with_reducible exact LeO.none _)
      | (with_reducible refine LeO.ite ?_ ?_)
      | (with_reducible refine LeO.bind ?_ (fun _ => ?_))
      | exact ih0 _ _ _ _
      | exact ih1 _ _ _ _
      | exact ih2 _ _ _ _ _ _ _
      | exact ih3 _ _ _ _ _ _ _
      | exact ih4 _ _ _ _ _
      | exact impl_TableRun.mono _ _ _
      | exact laws_zzFits1.mono _ _
      | exact spec_TableOf.mono _ _
      | exact LeO.none _
      | refine LeO.ite ?_ ?_
      | refine LeO.bind ?_ (fun _ => ?_)
theorem laws_FnTableSteps.mono : ∀ a0 a1 a2 k, LeO (laws_FnTableSteps.f k a0 a1 a2) (laws_FnTableSteps.f (k + 1) a0 a1 a2) := by
  intro a0 a1 a2 k
  obtain ⟨ih0, ih1, ih2, ih3, ih4⟩ := laws_FnTableSteps.mono_l k
  unfold laws_FnTableSteps.f
  repeat' first
      | (with_reducible exact ih0 _ _ _ _)
      | (with_reducible exact ih1 _ _ _ _)
      | (with_reducible exact ih2 _ _ _ _ _ _ _)
      | (with_reducible exact ih3 _ _ _ _ _ _ _)
      | (with_reducible exact ih4 _ _ _ _ _)
      | (with_reducible exact impl_TableRun.mono _ _ _)
      | (with_reducible exact laws_zzFits1.mono _ _)
      | (with_reducible exact spec_TableOf.mono _ _)
      | (with_reducible exact LeO.refl _)
      | (with_reducible exact LeO.none _)
      | (with_reducible refine LeO.ite ?_ ?_)
      | (with_reducible refine LeO.bind ?_ (fun _ => ?_))
      | exact ih0 _ _ _ _
      | exact ih1 _ _ _ _
      | exact ih2 _ _ _ _ _ _ _
      | exact ih3 _ _ _ _ _ _ _
      | exact ih4 _ _ _ _ _
      | exact impl_TableRun.mono _ _ _
      | exact laws_zzFits1.mono _ _
      | exact spec_TableOf.mono _ _
      | exact LeO.none _
      | refine LeO.ite ?_ ?_
      | refine LeO.bind ?_ (fun _ => ?_)
def laws_FnTableSteps.T11 : Bool × List (List Nat × List Nat) := (true, [([], []), ([], []), ([1], [1]), ([], []), ([3], [3]), ([], []), ([5], [5]), ([], []), ([7], [7]), ([], []), ([9], [9]), ([], []), ([11], [11]), ([], []), ([13], [13]), ([14], [14]), ([2, 4, 6, 8, 10, 12, 15], [2, 4, 6, 8, 10, 12, 15]), ([16], [16]), ([0, 17, 15], [0, 17]), ([18, 18, 0, 1, 2, 3, 4, 5, 6, 7, 8, 9, 10, 11, 12, 13, 14, 15, 16, 17, 18], [0, 18])])
def laws_FnTableSteps.B11 : List Nat := [0, 0, 2, 0, 8, 0, 32, 0, 128, 0, 512, 0, 2048, 0, 8192, 24576, 65534, 131070, 262143, 524287]
theorem laws_FnTableSteps.tab11 : rtab .any (opsOf Try.f3 11) = laws_FnTableSteps.T11 := by kernel_rfl
theorem laws_FnTableSteps.bits11 : waitsOk laws_FnTableSteps.T11.2 laws_FnTableSteps.B11 = true := by kernel_rfl
def laws_FnTableSteps.T17 : Bool × List (List Nat × List Nat) := (true, [([], []), ([], []), ([], []), ([1, 2], [1, 2]), ([3], [3]), ([4], [4]), ([], []), ([], []), ([6, 7], [6, 7]), ([8], [8]), ([5, 9], [5, 9]), ([10], [10]), ([0, 11], [0, 11]), ([12, 12, 0, 1, 2, 3, 4, 5, 6, 7, 8, 9, 10, 11, 12], [0, 12])])
def laws_FnTableSteps.B17 : List Nat := [0, 0, 0, 6, 14, 30, 0, 0, 192, 448, 1022, 2046, 4095, 8191]
theorem laws_FnTableSteps.tab17 : rtab .any (opsOf Try.f3 17) = laws_FnTableSteps.T17 := by kernel_rfl
theorem laws_FnTableSteps.bits17 : waitsOk laws_FnTableSteps.T17.2 laws_FnTableSteps.B17 = true := by kernel_rfl
set_option maxHeartbeats 8000000 in
set_option maxRecDepth 100000 in
theorem laws_FnTableSteps.calls (k : Nat) (P0_ : Nat → Prop) (A0 : Option Addr) (c0 : Nat) (l0 : List (S27)) (A1 : Option Addr) (c1 : Nat) (l1 : List Int) (A2 : Option Addr) (c2 : Nat) (l2 : List Int) (r : Bool) (w : World) (hs0 : Kd.V k27 27 w w.heap.size (fun k_ => P0_ k_) (.slice A0 l0.length c0) l0) (hr1 : Kd.C (Kd.int .u8) w A1 l1.length l1) (hc1 : l1.length ≤ c1) (hr2 : Kd.C (Kd.int .u8) w A2 l2.length l2) (hc2 : l2.length ≤ c2) (h : laws_FnTableSteps.f k l0 l1 l2 = some r) :
    Calls Try.prog 3 #[.slice A0 l0.length c0, .slice A1 l1.length c1, .slice A2 l2.length c2] w fun e w' => e = .returned (.bool r) ∧ Below w.heap.size w w' := by
  have hu27 := Try.underlying27
  have hu30 := Try.underlying30
  have hu32 := Try.underlying32
  have HO0 := Aside0.mk (show Kd.V k27 27 w w.heap.size (fun k_ => (P0_ k_ ∨ w.heap.size ≤ k_)) (.slice A0 l0.length c0) l0 from Kd.V_mono hs0 (fun k_ hk => .inl hk))
  have HR1 := Aside0.mk hr1
  have HC1 := Aside0.mk hc1
  clear hr1 hc1
  have HR2 := Aside0.mk hr2
  have HC2 := Aside0.mk hc2
  clear hr2 hc2
  have HB := Aside0.mk (Below.refl w.heap.size w)
  have H : ((laws_zzFits1.f k l0).bind fun t149 => (if t149 = true then (if (l1.length : Int) > 2147483647 then (laws_FnTableSteps.j0 k l0 l1 l2 true) else (laws_FnTableSteps.j0 k l0 l1 l2 (decide ((l2.length : Int) > 2147483647)))) else (laws_FnTableSteps.j0 k l0 l1 l2 true))) = some r := h
  clear h
  have HC4 := Aside0.mk H
  clear H
  go_enter Try.func3, Try.ntmps3
  go_upto_region 1 with (fail)
  go_cut [30] (fun v30 wc => ∃ (kq : Nat) (x30_3 : Bool), v30 = .bool x30_3 ∧ Aside0 (laws_FnTableSteps.j0 kq l0 l1 l2 x30_3 = some r) ∧ Aside0 (kq ≤ k) ∧ Aside0 (Kd.V k27 27 wc w.heap.size (fun k_ => (P0_ k_ ∨ w.heap.size ≤ k_)) (.slice A0 l0.length c0) l0) ∧ Aside0 (Below w.heap.size w wc))
  case first =>
    have H := HC4.out
    clear HC4
    replace H := Option.bind_eq_some_iff.mp H
    obtain ⟨t149, A50, H⟩ := H
    replace H : (if t149 = true then (if (l1.length : Int) > 2147483647 then (laws_FnTableSteps.j0 k l0 l1 l2 true) else (laws_FnTableSteps.j0 k l0 l1 l2 (decide ((l2.length : Int) > 2147483647)))) else (laws_FnTableSteps.j0 k l0 l1 l2 true)) = some r := H
    have A5 := Aside0.mk A50
    clear A50
    by_cases c6 : t149 = true
    · subst c6
      have H1 : (if (l1.length : Int) > 2147483647 then (laws_FnTableSteps.j0 k l0 l1 l2 true) else (laws_FnTableSteps.j0 k l0 l1 l2 (decide ((l2.length : Int) > 2147483647)))) = some r := by rw [if_pos rfl] at H; exact H
      clear H
      have H := H1
      clear H1
      by_cases c7 : (l1.length : Int) > 2147483647
      · rw [if_pos c7] at H
        have c7b0 : decide (2147483647 < (l1.length : Int)) = true := decide_eq_true c7
        (try (have c7b90 := c7b0; simp only [hl150_4] at c7b90))
        have c7b1 : decide (2147483647 < l1.length) = true := decide_eq_true (by omega)
        clear c7
        (first | rw [c7b0] | (simp only [i64_w, i32_w]; rw [c7b0]) | skip)
        have H' := Aside0.mk H
        clear H
        go_wp2_with (first | ((with_reducible refine gate_callee (f := 5) rfl ?_); refine goesL_ (some 19) rfl rfl Try.func5 (by kernel_rfl) rfl #[.slice A0 l0.length c0] rfl (by (try simp only [List.map_toArray, List.map_cons, List.map_nil]); first | done | rfl | (simp only [List.length_drop, List.length_take]; rfl) | (simp [Act.eval, *]; done) | (simp [Act.eval, *]; unfold wrap64; omega)) ?_; (with_reducible refine (laws_zzFits1.calls k _ _ l0 true _ ?side1 ?side2 A5.out).mono ?_); (case side1 => repeat (first | exact (Kd.V_reads' HO0.out).2.2 | (with_reducible refine Kd.C_alloc ?_ _) | (with_reducible refine Kd.C_drewN ?_ _) | (with_reducible refine Kd.C_drew ?_))); (case side2 => exact (Kd.V_reads' HO0.out).2.1); rintro e w8 ⟨rfl, hb⟩; refine ⟨_, rfl, ?_⟩; have n0_ := Aside0.mk (Kd.V_below (by (with_reducible repeat (first | apply Kd.V_alloc | apply Go.Proofs.Ytnjbobboookfmaa.Ext.R_bytes | apply Kd.V_drewN | apply Kd.V_drew)); exact HO0.out) hb); have n1_ := Aside0.mk (below_step (by repeat (first | (with_reducible first | exact HB.out | apply below_alloc | apply Go.Proofs.Ytnjbobboookfmaa.Ext.below_bytes | apply pw_below_drewN | apply below_drew1) | exact HB.out)) hb); clear HO0; clear HB; have HO0 := n0_; have HB := n1_; clear n0_ n1_; (try clear hb); (try clear hb2); (try clear hk); (try clear hi)))
        go_meet
        case rel => exact ⟨_, (true), (by first | rfl | (simp; done) | (simp [*]; done)), H', ⟨by first | omega | exact Nat.le_refl _⟩, ⟨by (with_reducible repeat (first | apply Kd.V_alloc | apply Go.Proofs.Ytnjbobboookfmaa.Ext.R_bytes | apply Kd.V_drewN | apply Kd.V_drew)); exact HO0.out⟩, ⟨by repeat (first | (with_reducible first | exact HB.out | apply below_alloc | apply Go.Proofs.Ytnjbobboookfmaa.Ext.below_bytes | apply pw_below_drewN | apply below_drew1) | exact HB.out)⟩⟩
      · rw [if_neg c7] at H
        have c7b0 : decide (2147483647 < (l1.length : Int)) = false := decide_eq_false c7
        (try (have c7b90 := c7b0; simp only [hl150_4] at c7b90))
        have c7b1 : decide (2147483647 < l1.length) = false := decide_eq_false (by omega)
        clear c7
        (first | rw [c7b0] | (simp only [i64_w, i32_w]; rw [c7b0]) | skip)
        have H' := Aside0.mk H
        clear H
        go_wp2_with (first | ((with_reducible refine gate_callee (f := 5) rfl ?_); refine goesL_ (some 19) rfl rfl Try.func5 (by kernel_rfl) rfl #[.slice A0 l0.length c0] rfl (by (try simp only [List.map_toArray, List.map_cons, List.map_nil]); first | done | rfl | (simp only [List.length_drop, List.length_take]; rfl) | (simp [Act.eval, *]; done) | (simp [Act.eval, *]; unfold wrap64; omega)) ?_; (with_reducible refine (laws_zzFits1.calls k _ _ l0 true _ ?side1 ?side2 A5.out).mono ?_); (case side1 => repeat (first | exact (Kd.V_reads' HO0.out).2.2 | (with_reducible refine Kd.C_alloc ?_ _) | (with_reducible refine Kd.C_drewN ?_ _) | (with_reducible refine Kd.C_drew ?_))); (case side2 => exact (Kd.V_reads' HO0.out).2.1); rintro e w9 ⟨rfl, hb⟩; refine ⟨_, rfl, ?_⟩; have n0_ := Aside0.mk (Kd.V_below (by (with_reducible repeat (first | apply Kd.V_alloc | apply Go.Proofs.Ytnjbobboookfmaa.Ext.R_bytes | apply Kd.V_drewN | apply Kd.V_drew)); exact HO0.out) hb); have n1_ := Aside0.mk (below_step (by repeat (first | (with_reducible first | exact HB.out | apply below_alloc | apply Go.Proofs.Ytnjbobboookfmaa.Ext.below_bytes | apply pw_below_drewN | apply below_drew1) | exact HB.out)) hb); clear HO0; clear HB; have HO0 := n0_; have HB := n1_; clear n0_ n1_; (try clear hb); (try clear hb2); (try clear hk); (try clear hi)))
        go_meet
        case rel => exact ⟨_, (decide ((l2.length : Int) > 2147483647)), (by first | rfl | (simp; done) | (simp [*]; done)), H', ⟨by first | omega | exact Nat.le_refl _⟩, ⟨by (with_reducible repeat (first | apply Kd.V_alloc | apply Go.Proofs.Ytnjbobboookfmaa.Ext.R_bytes | apply Kd.V_drewN | apply Kd.V_drew)); exact HO0.out⟩, ⟨by repeat (first | (with_reducible first | exact HB.out | apply below_alloc | apply Go.Proofs.Ytnjbobboookfmaa.Ext.below_bytes | apply pw_below_drewN | apply below_drew1) | exact HB.out)⟩⟩
    · replace c6 := Bool.eq_false_iff.mpr c6
      subst c6
      have H1 : (laws_FnTableSteps.j0 k l0 l1 l2 true) = some r := by rw [if_neg (show ¬ (false = true) by decide)] at H; exact H
      clear H
      have H := H1
      clear H1
      have H' := Aside0.mk H
      clear H
      go_wp2_with (first | ((with_reducible refine gate_callee (f := 5) rfl ?_); refine goesL_ (some 19) rfl rfl Try.func5 (by kernel_rfl) rfl #[.slice A0 l0.length c0] rfl (by (try simp only [List.map_toArray, List.map_cons, List.map_nil]); first | done | rfl | (simp only [List.length_drop, List.length_take]; rfl) | (simp [Act.eval, *]; done) | (simp [Act.eval, *]; unfold wrap64; omega)) ?_; (with_reducible refine (laws_zzFits1.calls k _ _ l0 false _ ?side1 ?side2 A5.out).mono ?_); (case side1 => repeat (first | exact (Kd.V_reads' HO0.out).2.2 | (with_reducible refine Kd.C_alloc ?_ _) | (with_reducible refine Kd.C_drewN ?_ _) | (with_reducible refine Kd.C_drew ?_))); (case side2 => exact (Kd.V_reads' HO0.out).2.1); rintro e w10 ⟨rfl, hb⟩; refine ⟨_, rfl, ?_⟩; have n0_ := Aside0.mk (Kd.V_below (by (with_reducible repeat (first | apply Kd.V_alloc | apply Go.Proofs.Ytnjbobboookfmaa.Ext.R_bytes | apply Kd.V_drewN | apply Kd.V_drew)); exact HO0.out) hb); have n1_ := Aside0.mk (below_step (by repeat (first | (with_reducible first | exact HB.out | apply below_alloc | apply Go.Proofs.Ytnjbobboookfmaa.Ext.below_bytes | apply pw_below_drewN | apply below_drew1) | exact HB.out)) hb); clear HO0; clear HB; have HO0 := n0_; have HB := n1_; clear n0_ n1_; (try clear hb); (try clear hb2); (try clear hk); (try clear hi)))
      go_meet
      case rel => exact ⟨_, (true), (by first | rfl | (simp; done) | (simp [*]; done)), H', ⟨by first | omega | exact Nat.le_refl _⟩, ⟨by (with_reducible repeat (first | apply Kd.V_alloc | apply Go.Proofs.Ytnjbobboookfmaa.Ext.R_bytes | apply Kd.V_drewN | apply Kd.V_drew)); exact HO0.out⟩, ⟨by repeat (first | (with_reducible first | exact HB.out | apply below_alloc | apply Go.Proofs.Ytnjbobboookfmaa.Ext.below_bytes | apply pw_below_drewN | apply below_drew1) | exact HB.out)⟩⟩
  case rest =>
    clear HC4
    try clear c1
    try clear c2
    try clear p2
    try clear c3
    try clear c5
    try clear c6
    try clear p6
    try clear c7
    try clear c7b0
    try clear c7b1
    obtain ⟨kq, x30_3, rfl, HA, HJ3, HO_0, HB⟩ := hcut
    cases kq with
    | zero => exact absurd HA.out (by simp [laws_FnTableSteps.j0])
    | succ kj3 =>
      have H := HA.out
      clear HA
      simp only [laws_FnTableSteps.j0] at H
      by_cases c11 : x30_3 = true
      · subst c11
        have H1 : (some true) = some r := by rw [if_pos rfl] at H; exact H
        clear H
        have H := H1
        clear H1
        obtain rfl := Option.some.inj H
        go_wp2
        go_ret
        exact ⟨by first | rfl | (simp [errW_none, errW_some] <;> rfl) | (simp [*, errW_none, errW_some] <;> rfl), by repeat (first | (with_reducible first | exact HB.out | apply below_alloc | apply Go.Proofs.Ytnjbobboookfmaa.Ext.below_bytes | apply pw_below_drewN | apply below_drew1) | exact HB.out)⟩
      · replace c11 := Bool.eq_false_iff.mpr c11
        subst c11
        have H1 : (if (l0.length : Int) > 20 then (laws_FnTableSteps.j1 kj3 l0 l1 l2 true) else (if (l1.length : Int) > 100 then (laws_FnTableSteps.j1 kj3 l0 l1 l2 true) else (laws_FnTableSteps.j1 kj3 l0 l1 l2 (decide ((l2.length : Int) < (l1.length : Int)))))) = some r := by rw [if_neg (show ¬ (false = true) by decide)] at H; exact H
        clear H
        have H := H1
        clear H1
        have HC12 := Aside0.mk H
        clear H
        go_upto_region 3 with (fail)
        go_cut [45] (fun v45 wc => ∃ (kq : Nat) (x45_11 : Bool), v45 = .bool x45_11 ∧ Aside0 (laws_FnTableSteps.j1 kq l0 l1 l2 x45_11 = some r) ∧ Aside0 (kq ≤ kj3) ∧ Aside0 (Kd.V k27 27 wc w.heap.size (fun k_ => (P0_ k_ ∨ w.heap.size ≤ k_)) (.slice A0 l0.length c0) l0) ∧ Aside0 (Below w.heap.size w wc))
        case first =>
          have H := HC12.out
          clear HC12
          by_cases c13 : (l0.length : Int) > 20
          · rw [if_pos c13] at H
            have c13b0 : decide (20 < (l0.length : Int)) = true := decide_eq_true c13
            (try (have c13b90 := c13b0; simp only [hl150_4] at c13b90))
            have c13b1 : decide (20 < l0.length) = true := decide_eq_true (by omega)
            clear c13
            (first | rw [c13b0] | (simp only [i64_w, i32_w]; rw [c13b0]) | skip)
            have H' := Aside0.mk H
            clear H
            go_wp2
            go_meet
            case rel => exact ⟨_, (true), (by first | rfl | (simp; done) | (simp [*]; done)), H', ⟨by have := HJ3.out; first | omega | exact Nat.le_refl _⟩, ⟨by (with_reducible repeat (first | apply Kd.V_alloc | apply Go.Proofs.Ytnjbobboookfmaa.Ext.R_bytes | apply Kd.V_drewN | apply Kd.V_drew)); exact HO_0.out⟩, ⟨by repeat (first | (with_reducible first | exact HB.out | apply below_alloc | apply Go.Proofs.Ytnjbobboookfmaa.Ext.below_bytes | apply pw_below_drewN | apply below_drew1) | exact HB.out)⟩⟩
          · rw [if_neg c13] at H
            have c13b0 : decide (20 < (l0.length : Int)) = false := decide_eq_false c13
            (try (have c13b90 := c13b0; simp only [hl150_4] at c13b90))
            have c13b1 : decide (20 < l0.length) = false := decide_eq_false (by omega)
            clear c13
            (first | rw [c13b0] | (simp only [i64_w, i32_w]; rw [c13b0]) | skip)
            by_cases c14 : (l1.length : Int) > 100
            · rw [if_pos c14] at H
              have c14b0 : decide (100 < (l1.length : Int)) = true := decide_eq_true c14
              (try (have c14b90 := c14b0; simp only [hl150_4] at c14b90))
              have c14b1 : decide (100 < l1.length) = true := decide_eq_true (by omega)
              clear c14
              have H' := Aside0.mk H
              clear H
              go_wp2
              go_meet
              case rel => exact ⟨_, (true), (by first | rfl | (simp; done) | (simp [*]; done)), H', ⟨by have := HJ3.out; first | omega | exact Nat.le_refl _⟩, ⟨by (with_reducible repeat (first | apply Kd.V_alloc | apply Go.Proofs.Ytnjbobboookfmaa.Ext.R_bytes | apply Kd.V_drewN | apply Kd.V_drew)); exact HO_0.out⟩, ⟨by repeat (first | (with_reducible first | exact HB.out | apply below_alloc | apply Go.Proofs.Ytnjbobboookfmaa.Ext.below_bytes | apply pw_below_drewN | apply below_drew1) | exact HB.out)⟩⟩
            · rw [if_neg c14] at H
              have c14b0 : decide (100 < (l1.length : Int)) = false := decide_eq_false c14
              (try (have c14b90 := c14b0; simp only [hl150_4] at c14b90))
              have c14b1 : decide (100 < l1.length) = false := decide_eq_false (by omega)
              clear c14
              have H' := Aside0.mk H
              clear H
              go_wp2
              go_meet
              case rel => exact ⟨_, (decide ((l2.length : Int) < (l1.length : Int))), (by first | rfl | (simp; done) | (simp [*]; done)), H', ⟨by have := HJ3.out; first | omega | exact Nat.le_refl _⟩, ⟨by (with_reducible repeat (first | apply Kd.V_alloc | apply Go.Proofs.Ytnjbobboookfmaa.Ext.R_bytes | apply Kd.V_drewN | apply Kd.V_drew)); exact HO_0.out⟩, ⟨by repeat (first | (with_reducible first | exact HB.out | apply below_alloc | apply Go.Proofs.Ytnjbobboookfmaa.Ext.below_bytes | apply pw_below_drewN | apply below_drew1) | exact HB.out)⟩⟩
        case rest =>
          clear HC12
          try clear c1
          try clear c2
          try clear p2
          try clear c3
          try clear c5
          try clear c6
          try clear p6
          try clear c7
          try clear c7b0
          try clear c7b1
          try clear c11
          try clear c13
          try clear c13b0
          try clear c13b1
          try clear c14
          try clear c14b0
          try clear c14b1
          try clear p2
          try clear p6
          obtain ⟨kq, x45_11, rfl, HA, HJ11, HO_0, HB⟩ := hcut
          cases kq with
          | zero => exact absurd HA.out (by simp [laws_FnTableSteps.j1])
          | succ kj11 =>
            have H := HA.out
            clear HA
            simp only [laws_FnTableSteps.j1] at H
            by_cases c15 : x45_11 = true
            · subst c15
              have H1 : (some true) = some r := by rw [if_pos rfl] at H; exact H
              clear H
              have H := H1
              clear H1
              obtain rfl := Option.some.inj H
              go_wp2
              go_ret
              exact ⟨by first | rfl | (simp [errW_none, errW_some] <;> rfl) | (simp [*, errW_none, errW_some] <;> rfl), by repeat (first | (with_reducible first | exact HB.out | apply below_alloc | apply Go.Proofs.Ytnjbobboookfmaa.Ext.below_bytes | apply pw_below_drewN | apply below_drew1) | exact HB.out)⟩
            · replace c15 := Bool.eq_false_iff.mpr c15
              subst c15
              have H1 : (laws_FnTableSteps.l0 kj11 l0 l1 l2 ([] : List (S30)) l0 (l0.length : Int) 0) = some r := by rw [if_neg (show ¬ (false = true) by decide)] at H; exact H
              clear H
              have H := H1
              clear H1
              have H' := Aside0.mk H
              clear H
              go_wp2
              go_loopg [7, 48] kj11 (fun kq v7 v48 w' => ∃ (x7_3 : List (S30)) (x48_3 : Int), v48 = .int .i64 x48_3 ∧ Aside0 (laws_FnTableSteps.l0 kq l0 l1 l2 x7_3 l0 (l0.length : Int) x48_3 = some r) ∧ Aside0 (kq ≤ kj11) ∧ Aside0 (Kd.V k27 27 w' w.heap.size (fun k_ => (P0_ k_ ∨ w.heap.size ≤ k_) ∧ some k_ ≠ (v7 : Value).ownBlock) (.slice A0 l0.length c0) l0) ∧ Aside0 (Kd.N k30 30 w' w.heap.size (fun k_ => (P0_ k_ ∨ w.heap.size ≤ k_)) v7 x7_3) ∧ Aside0 (Kd.V k27 27 w' w.heap.size (fun k_ => (P0_ k_ ∨ w.heap.size ≤ k_) ∧ some k_ ≠ (v7 : Value).ownBlock) (.slice A0 l0.length c0) l0) ∧ Aside0 (Below w.heap.size w w'))
              case atStart => exact ⟨(([] : List (S30))), (0), (by first | rfl | (simp; done) | (simp [*]; done)), H', ⟨Nat.le_refl _⟩, ⟨by (with_reducible repeat (first | apply Kd.V_alloc | apply Go.Proofs.Ytnjbobboookfmaa.Ext.R_bytes | apply Kd.V_drewN | apply Kd.V_drew)); exact Kd.V_mono HO_0.out (fun _ hk => ⟨hk, (by simp [Value.ownBlock])⟩)⟩, ⟨by first | exact Kd.S_nil _ _ _ _ _ | exact Kd.N_nil _ _ _ _ _ | exact Kd.V_nil _ _ _ _ _ | exact Kd.Q_nil _ _ _ _ _ | exact Kd.R_nil _ _ _ _ _⟩, ⟨by (with_reducible repeat (first | apply Kd.V_alloc | apply Go.Proofs.Ytnjbobboookfmaa.Ext.R_bytes | apply Kd.V_drewN | apply Kd.V_drew)); exact Kd.V_mono HO_0.out (fun _ hk => ⟨hk, (by simp [Value.ownBlock])⟩)⟩, ⟨by repeat (first | (with_reducible first | exact HB.out | apply below_alloc | apply Go.Proofs.Ytnjbobboookfmaa.Ext.below_bytes | apply pw_below_drewN | apply below_drew1) | exact HB.out)⟩⟩
              case round =>
                clear H'
                try clear c1
                try clear c2
                try clear p2
                try clear c3
                try clear c5
                try clear c6
                try clear p6
                try clear c7
                try clear c7b0
                try clear c7b1
                try clear c11
                try clear c13
                try clear c13b0
                try clear c13b1
                try clear c14
                try clear c14b0
                try clear c14b1
                try clear c15
                try clear p2
                try clear p6
                obtain ⟨x7_3, x48_3, rfl, HA, HK3, HO_0, HO_7, HO_46, HB⟩ := hrel
                cases gk with
                | zero => exact absurd HA.out (by simp [laws_FnTableSteps.l0])
                | succ k3 =>
                  have H := HA.out
                  clear HA
                  simp only [laws_FnTableSteps.l0] at H
                  by_cases c16 : x48_3 < (l0.length : Int)
                  · rw [if_pos c16] at H
                    have c16b0 : decide (x48_3 < (l0.length : Int)) = true := decide_eq_true c16
                    (try (have c16b90 := c16b0; simp only [hl150_4] at c16b90))
                    clear c16
                    by_cases c17 : 0 ≤ x48_3
                    · rw [if_pos c17] at H
                      have c17b0 : decide (0 ≤ x48_3) = true := decide_eq_true c17
                      clear c17
                      by_cases c18 : x48_3 < (l0.length : Int)
                      · rw [if_pos c18] at H
                        have c18b0 : decide (x48_3 < (l0.length : Int)) = true := decide_eq_true c18
                        (try (have c18b90 := c18b0; simp only [hl150_4] at c18b90))
                        clear c18
                        by_cases c19 : ((rd_T27 l0 x48_3).f0) < 0
                        · rw [if_pos c19] at H
                          have c19b0 : decide (((rd_T27 l0 x48_3).f0) < 0) = true := decide_eq_true c19
                          clear c19
                          obtain rfl := Option.some.inj H
                          have p150 : 0 ≤ (x48_3 : Int) := of_decide_eq_true (by first | (with_reducible assumption) | assumption)
                          have q150 : x48_3 < (l0.length : Int) := of_decide_eq_true (by first | (with_reducible assumption) | assumption)
                          obtain ⟨ad150, A150_4, c150_4, e150, hx150_0, hx150_1, hx150_2, hx150_3, hx150_4, hx150_5, hx150_6, hl150_4, hi150_4⟩ := at_T27 (Kd.V_reads' HO_46.out).2.2 x48_3 p150 q150
                          cases e150
                          obtain ⟨ce150, hce150, hMe150, hcc150⟩ := Kd.V_get HO_46.out z27 x48_3 p150 (by first | exact q150 | exact of_decide_eq_true (by first | (with_reducible assumption) | assumption) | (have e_ := (Kd.V_reads' HO_46.out).1; omega))
                          obtain ⟨ua150_4, uc150_4, rfl, ul150_4, ge150_4⟩ := k27_openF hMe150
                          have hv150_4 := hcc150 4 _ rfl
                          rw [add_field _ _ 4 (by omega)] at hv150_4
                          replace hv150_4 := Option.some.inj (hv150_4.symm.trans hx150_4)
                          injection hv150_4 with hva_ hvn_ hvc_
                          rw [hva_] at ge150_4
                          rw [hvc_] at ul150_4
                          have HL150_4 := Aside0.mk (show Kd.V (Kd.int .u8) 5 _ w.heap.size _ _ ((rd_T27 l0 x48_3).f4) from Kd.V_mk ul150_4 ge150_4)
                          clear hva_ hvn_ hvc_ ge150_4 ul150_4
                          clear hcc150 hce150
                          have HR150_4 := Aside0.mk hi150_4
                          have HC150_4 := Aside0.mk hl150_4
                          clear hi150_4 hl150_4
                          replace p150 := eq_true p150
                          replace q150 := eq_true q150
                          go_wp2_with (first | ((with_reducible refine gate_dst (N := 9) rfl ?_); (try (refine gate_guard (by rfl) ?_; dsimp only)); refine box_event ?hg (N := 9) ?hd (cs := #[.int .i64 0, .int .u8 0, .int .u8 0, .int .u8 0, .slice none 0 0, .int .u8 0, .int .u8 0]) (t := 27) ?hr ?_; (case hd => rfl); (case hg => rfl); (case hr => first | (go_simp; done) | (go_simp; rfl)); intro gb151 hg w20 hbox hb; have n0_ := Aside0.mk (Kd.V_below (Kd.V_elderB (by (with_reducible repeat (first | apply Kd.V_alloc | apply Go.Proofs.Ytnjbobboookfmaa.Ext.R_bytes | apply Kd.V_drewN | apply Kd.V_drew)); exact HO_0.out) gb151 (Nat.le_of_eq hg.symm)) hb); have n1_ := Aside0.mk (Kd.N_below (Kd.N_elderB (by (with_reducible repeat (first | apply Kd.N_alloc | apply Go.Proofs.Ytnjbobboookfmaa.Ext.R_bytes | apply Kd.N_drewN | apply Kd.N_drew)); exact HO_7.out) gb151 (Nat.le_of_eq hg.symm)) hb); have n2_ := Aside0.mk (Kd.V_below (Kd.V_elderB (by (with_reducible repeat (first | apply Kd.V_alloc | apply Go.Proofs.Ytnjbobboookfmaa.Ext.R_bytes | apply Kd.V_drewN | apply Kd.V_drew)); exact HO_46.out) gb151 (Nat.le_of_eq hg.symm)) hb); have n3_ := Aside0.mk (Kd.V_below (Kd.V_elderB (by (with_reducible repeat (first | apply Kd.V_alloc | apply Go.Proofs.Ytnjbobboookfmaa.Ext.R_bytes | apply Kd.V_drewN | apply Kd.V_drew)); exact HL150_4.out) gb151 (Nat.le_of_eq hg.symm)) hb); have n4_ := Aside0.mk (Kd.C_below (by repeat (first | (with_reducible exact HR150_4.out) | (with_reducible refine Kd.C_alloc ?_ _) | (with_reducible refine Kd.C_drewN ?_ _) | (with_reducible refine Kd.C_drew ?_) | exact HR150_4.out)) hb); have n5_ := Aside0.mk (below_step (by repeat (first | (with_reducible first | exact HB.out | apply below_alloc | apply Go.Proofs.Ytnjbobboookfmaa.Ext.below_bytes | apply pw_below_drewN | apply below_drew1) | exact HB.out)) hb); have n6_ := Aside0.mk (hbox); have n7_ := Aside0.mk ((by rw [hg]; exact (below_size (by repeat (first | (with_reducible first | exact HB.out | apply below_alloc | apply Go.Proofs.Ytnjbobboookfmaa.Ext.below_bytes | apply pw_below_drewN | apply below_drew1) | exact HB.out))) : w.heap.size ≤ gb151)); have n8_ := Aside0.mk ((by rw [hg]; exact (below_size (by repeat (first | (with_reducible first | exact HB.out | apply below_alloc | apply Go.Proofs.Ytnjbobboookfmaa.Ext.below_bytes | apply pw_below_drewN | apply below_drew1) | exact HB.out))) : w.heap.size ≤ gb151)); clear HO_0; clear HO_7; clear HO_46; clear HL150_4; clear HR150_4; clear HB; have HO_0 := n0_; have HO_7 := n1_; have HO_46 := n2_; have HL150_4 := n3_; have HR150_4 := n4_; have HB := n5_; have BK151 := n6_; have GW151 := n7_; have GE151 := n8_; clear n0_ n1_ n2_ n3_ n4_ n5_ n6_ n7_ n8_; clear hb hbox hg; have hcz21_0 : w20.cell? ⟨gb151, 0, none⟩ = some (.int .i64 0) := (blk_cell BK151.out 0).trans rfl; have hcz21_1 : w20.cell? ⟨gb151, 1, none⟩ = some (.int .u8 0) := (blk_cell BK151.out 1).trans rfl; have hcz21_2 : w20.cell? ⟨gb151, 2, none⟩ = some (.int .u8 0) := (blk_cell BK151.out 2).trans rfl; have hcz21_3 : w20.cell? ⟨gb151, 3, none⟩ = some (.int .u8 0) := (blk_cell BK151.out 3).trans rfl; have hcz21_4 : w20.cell? ⟨gb151, 4, none⟩ = some (.slice none 0 0) := (blk_cell BK151.out 4).trans rfl; have hcz21_5 : w20.cell? ⟨gb151, 5, none⟩ = some (.int .u8 0) := (blk_cell BK151.out 5).trans rfl; have hcz21_6 : w20.cell? ⟨gb151, 6, none⟩ = some (.int .u8 0) := (blk_cell BK151.out 6).trans rfl; have hfz21_0 := blk_frozen BK151.out 0; have hfz21_1 := blk_frozen BK151.out 1; have hfz21_2 := blk_frozen BK151.out 2; have hfz21_3 := blk_frozen BK151.out 3; have hfz21_4 := blk_frozen BK151.out 4; have hfz21_5 := blk_frozen BK151.out 5; have hfz21_6 := blk_frozen BK151.out 6))
                          go_ret
                          exact ⟨by first | rfl | (simp [errW_none, errW_some] <;> rfl) | (simp [*, errW_none, errW_some] <;> rfl), by repeat (first | (with_reducible first | exact HB.out | apply below_alloc | apply Go.Proofs.Ytnjbobboookfmaa.Ext.below_bytes | apply pw_below_drewN | apply below_drew1 | refine below_set ?_ GE151.out) | exact HB.out)⟩
                        · rw [if_neg c19] at H
                          have c19b0 : decide (((rd_T27 l0 x48_3).f0) < 0) = false := decide_eq_false c19
                          clear c19
                          by_cases c22 : ((rd_T27 l0 x48_3).f0) > 3
                          · rw [if_pos c22] at H
                            have c22b0 : decide (3 < ((rd_T27 l0 x48_3).f0)) = true := decide_eq_true c22
                            clear c22
                            obtain rfl := Option.some.inj H
                            have p150 : 0 ≤ (x48_3 : Int) := of_decide_eq_true (by first | (with_reducible assumption) | assumption)
                            have q150 : x48_3 < (l0.length : Int) := of_decide_eq_true (by first | (with_reducible assumption) | assumption)
                            obtain ⟨ad150, A150_4, c150_4, e150, hx150_0, hx150_1, hx150_2, hx150_3, hx150_4, hx150_5, hx150_6, hl150_4, hi150_4⟩ := at_T27 (Kd.V_reads' HO_46.out).2.2 x48_3 p150 q150
                            cases e150
                            obtain ⟨ce150, hce150, hMe150, hcc150⟩ := Kd.V_get HO_46.out z27 x48_3 p150 (by first | exact q150 | exact of_decide_eq_true (by first | (with_reducible assumption) | assumption) | (have e_ := (Kd.V_reads' HO_46.out).1; omega))
                            obtain ⟨ua150_4, uc150_4, rfl, ul150_4, ge150_4⟩ := k27_openF hMe150
                            have hv150_4 := hcc150 4 _ rfl
                            rw [add_field _ _ 4 (by omega)] at hv150_4
                            replace hv150_4 := Option.some.inj (hv150_4.symm.trans hx150_4)
                            injection hv150_4 with hva_ hvn_ hvc_
                            rw [hva_] at ge150_4
                            rw [hvc_] at ul150_4
                            have HL150_4 := Aside0.mk (show Kd.V (Kd.int .u8) 5 _ w.heap.size _ _ ((rd_T27 l0 x48_3).f4) from Kd.V_mk ul150_4 ge150_4)
                            clear hva_ hvn_ hvc_ ge150_4 ul150_4
                            clear hcc150 hce150
                            have HR150_4 := Aside0.mk hi150_4
                            have HC150_4 := Aside0.mk hl150_4
                            clear hi150_4 hl150_4
                            replace p150 := eq_true p150
                            replace q150 := eq_true q150
                            go_wp2_with (first | ((with_reducible refine gate_dst (N := 9) rfl ?_); (try (refine gate_guard (by rfl) ?_; dsimp only)); refine box_event ?hg (N := 9) ?hd (cs := #[.int .i64 0, .int .u8 0, .int .u8 0, .int .u8 0, .slice none 0 0, .int .u8 0, .int .u8 0]) (t := 27) ?hr ?_; (case hd => rfl); (case hg => rfl); (case hr => first | (go_simp; done) | (go_simp; rfl)); intro gb151 hg w23 hbox hb; have n0_ := Aside0.mk (Kd.V_below (Kd.V_elderB (by (with_reducible repeat (first | apply Kd.V_alloc | apply Go.Proofs.Ytnjbobboookfmaa.Ext.R_bytes | apply Kd.V_drewN | apply Kd.V_drew)); exact HO_0.out) gb151 (Nat.le_of_eq hg.symm)) hb); have n1_ := Aside0.mk (Kd.N_below (Kd.N_elderB (by (with_reducible repeat (first | apply Kd.N_alloc | apply Go.Proofs.Ytnjbobboookfmaa.Ext.R_bytes | apply Kd.N_drewN | apply Kd.N_drew)); exact HO_7.out) gb151 (Nat.le_of_eq hg.symm)) hb); have n2_ := Aside0.mk (Kd.V_below (Kd.V_elderB (by (with_reducible repeat (first | apply Kd.V_alloc | apply Go.Proofs.Ytnjbobboookfmaa.Ext.R_bytes | apply Kd.V_drewN | apply Kd.V_drew)); exact HO_46.out) gb151 (Nat.le_of_eq hg.symm)) hb); have n3_ := Aside0.mk (Kd.V_below (Kd.V_elderB (by (with_reducible repeat (first | apply Kd.V_alloc | apply Go.Proofs.Ytnjbobboookfmaa.Ext.R_bytes | apply Kd.V_drewN | apply Kd.V_drew)); exact HL150_4.out) gb151 (Nat.le_of_eq hg.symm)) hb); have n4_ := Aside0.mk (Kd.C_below (by repeat (first | (with_reducible exact HR150_4.out) | (with_reducible refine Kd.C_alloc ?_ _) | (with_reducible refine Kd.C_drewN ?_ _) | (with_reducible refine Kd.C_drew ?_) | exact HR150_4.out)) hb); have n5_ := Aside0.mk (below_step (by repeat (first | (with_reducible first | exact HB.out | apply below_alloc | apply Go.Proofs.Ytnjbobboookfmaa.Ext.below_bytes | apply pw_below_drewN | apply below_drew1) | exact HB.out)) hb); have n6_ := Aside0.mk (hbox); have n7_ := Aside0.mk ((by rw [hg]; exact (below_size (by repeat (first | (with_reducible first | exact HB.out | apply below_alloc | apply Go.Proofs.Ytnjbobboookfmaa.Ext.below_bytes | apply pw_below_drewN | apply below_drew1) | exact HB.out))) : w.heap.size ≤ gb151)); have n8_ := Aside0.mk ((by rw [hg]; exact (below_size (by repeat (first | (with_reducible first | exact HB.out | apply below_alloc | apply Go.Proofs.Ytnjbobboookfmaa.Ext.below_bytes | apply pw_below_drewN | apply below_drew1) | exact HB.out))) : w.heap.size ≤ gb151)); clear HO_0; clear HO_7; clear HO_46; clear HL150_4; clear HR150_4; clear HB; have HO_0 := n0_; have HO_7 := n1_; have HO_46 := n2_; have HL150_4 := n3_; have HR150_4 := n4_; have HB := n5_; have BK151 := n6_; have GW151 := n7_; have GE151 := n8_; clear n0_ n1_ n2_ n3_ n4_ n5_ n6_ n7_ n8_; clear hb hbox hg; have hcz24_0 : w23.cell? ⟨gb151, 0, none⟩ = some (.int .i64 0) := (blk_cell BK151.out 0).trans rfl; have hcz24_1 : w23.cell? ⟨gb151, 1, none⟩ = some (.int .u8 0) := (blk_cell BK151.out 1).trans rfl; have hcz24_2 : w23.cell? ⟨gb151, 2, none⟩ = some (.int .u8 0) := (blk_cell BK151.out 2).trans rfl; have hcz24_3 : w23.cell? ⟨gb151, 3, none⟩ = some (.int .u8 0) := (blk_cell BK151.out 3).trans rfl; have hcz24_4 : w23.cell? ⟨gb151, 4, none⟩ = some (.slice none 0 0) := (blk_cell BK151.out 4).trans rfl; have hcz24_5 : w23.cell? ⟨gb151, 5, none⟩ = some (.int .u8 0) := (blk_cell BK151.out 5).trans rfl; have hcz24_6 : w23.cell? ⟨gb151, 6, none⟩ = some (.int .u8 0) := (blk_cell BK151.out 6).trans rfl; have hfz24_0 := blk_frozen BK151.out 0; have hfz24_1 := blk_frozen BK151.out 1; have hfz24_2 := blk_frozen BK151.out 2; have hfz24_3 := blk_frozen BK151.out 3; have hfz24_4 := blk_frozen BK151.out 4; have hfz24_5 := blk_frozen BK151.out 5; have hfz24_6 := blk_frozen BK151.out 6))
                            go_ret
                            exact ⟨by first | rfl | (simp [errW_none, errW_some] <;> rfl) | (simp [*, errW_none, errW_some] <;> rfl), by repeat (first | (with_reducible first | exact HB.out | apply below_alloc | apply Go.Proofs.Ytnjbobboookfmaa.Ext.below_bytes | apply pw_below_drewN | apply below_drew1 | refine below_set ?_ GE151.out) | exact HB.out)⟩
                          · rw [if_neg c22] at H
                            have c22b0 : decide (3 < ((rd_T27 l0 x48_3).f0)) = false := decide_eq_false c22
                            clear c22
                            by_cases c25 : ((rd_T27 l0 x48_3).f1) > 15
                            · rw [if_pos c25] at H
                              have c25b0 : decide (15 < ((rd_T27 l0 x48_3).f1)) = true := decide_eq_true c25
                              clear c25
                              obtain rfl := Option.some.inj H
                              have p150 : 0 ≤ (x48_3 : Int) := of_decide_eq_true (by first | (with_reducible assumption) | assumption)
                              have q150 : x48_3 < (l0.length : Int) := of_decide_eq_true (by first | (with_reducible assumption) | assumption)
                              obtain ⟨ad150, A150_4, c150_4, e150, hx150_0, hx150_1, hx150_2, hx150_3, hx150_4, hx150_5, hx150_6, hl150_4, hi150_4⟩ := at_T27 (Kd.V_reads' HO_46.out).2.2 x48_3 p150 q150
                              cases e150
                              obtain ⟨ce150, hce150, hMe150, hcc150⟩ := Kd.V_get HO_46.out z27 x48_3 p150 (by first | exact q150 | exact of_decide_eq_true (by first | (with_reducible assumption) | assumption) | (have e_ := (Kd.V_reads' HO_46.out).1; omega))
                              obtain ⟨ua150_4, uc150_4, rfl, ul150_4, ge150_4⟩ := k27_openF hMe150
                              have hv150_4 := hcc150 4 _ rfl
                              rw [add_field _ _ 4 (by omega)] at hv150_4
                              replace hv150_4 := Option.some.inj (hv150_4.symm.trans hx150_4)
                              injection hv150_4 with hva_ hvn_ hvc_
                              rw [hva_] at ge150_4
                              rw [hvc_] at ul150_4
                              have HL150_4 := Aside0.mk (show Kd.V (Kd.int .u8) 5 _ w.heap.size _ _ ((rd_T27 l0 x48_3).f4) from Kd.V_mk ul150_4 ge150_4)
                              clear hva_ hvn_ hvc_ ge150_4 ul150_4
                              clear hcc150 hce150
                              have HR150_4 := Aside0.mk hi150_4
                              have HC150_4 := Aside0.mk hl150_4
                              clear hi150_4 hl150_4
                              replace p150 := eq_true p150
                              replace q150 := eq_true q150
                              go_wp2_with (first | ((with_reducible refine gate_dst (N := 9) rfl ?_); (try (refine gate_guard (by rfl) ?_; dsimp only)); refine box_event ?hg (N := 9) ?hd (cs := #[.int .i64 0, .int .u8 0, .int .u8 0, .int .u8 0, .slice none 0 0, .int .u8 0, .int .u8 0]) (t := 27) ?hr ?_; (case hd => rfl); (case hg => rfl); (case hr => first | (go_simp; done) | (go_simp; rfl)); intro gb151 hg w26 hbox hb; have n0_ := Aside0.mk (Kd.V_below (Kd.V_elderB (by (with_reducible repeat (first | apply Kd.V_alloc | apply Go.Proofs.Ytnjbobboookfmaa.Ext.R_bytes | apply Kd.V_drewN | apply Kd.V_drew)); exact HO_0.out) gb151 (Nat.le_of_eq hg.symm)) hb); have n1_ := Aside0.mk (Kd.N_below (Kd.N_elderB (by (with_reducible repeat (first | apply Kd.N_alloc | apply Go.Proofs.Ytnjbobboookfmaa.Ext.R_bytes | apply Kd.N_drewN | apply Kd.N_drew)); exact HO_7.out) gb151 (Nat.le_of_eq hg.symm)) hb); have n2_ := Aside0.mk (Kd.V_below (Kd.V_elderB (by (with_reducible repeat (first | apply Kd.V_alloc | apply Go.Proofs.Ytnjbobboookfmaa.Ext.R_bytes | apply Kd.V_drewN | apply Kd.V_drew)); exact HO_46.out) gb151 (Nat.le_of_eq hg.symm)) hb); have n3_ := Aside0.mk (Kd.V_below (Kd.V_elderB (by (with_reducible repeat (first | apply Kd.V_alloc | apply Go.Proofs.Ytnjbobboookfmaa.Ext.R_bytes | apply Kd.V_drewN | apply Kd.V_drew)); exact HL150_4.out) gb151 (Nat.le_of_eq hg.symm)) hb); have n4_ := Aside0.mk (Kd.C_below (by repeat (first | (with_reducible exact HR150_4.out) | (with_reducible refine Kd.C_alloc ?_ _) | (with_reducible refine Kd.C_drewN ?_ _) | (with_reducible refine Kd.C_drew ?_) | exact HR150_4.out)) hb); have n5_ := Aside0.mk (below_step (by repeat (first | (with_reducible first | exact HB.out | apply below_alloc | apply Go.Proofs.Ytnjbobboookfmaa.Ext.below_bytes | apply pw_below_drewN | apply below_drew1) | exact HB.out)) hb); have n6_ := Aside0.mk (hbox); have n7_ := Aside0.mk ((by rw [hg]; exact (below_size (by repeat (first | (with_reducible first | exact HB.out | apply below_alloc | apply Go.Proofs.Ytnjbobboookfmaa.Ext.below_bytes | apply pw_below_drewN | apply below_drew1) | exact HB.out))) : w.heap.size ≤ gb151)); have n8_ := Aside0.mk ((by rw [hg]; exact (below_size (by repeat (first | (with_reducible first | exact HB.out | apply below_alloc | apply Go.Proofs.Ytnjbobboookfmaa.Ext.below_bytes | apply pw_below_drewN | apply below_drew1) | exact HB.out))) : w.heap.size ≤ gb151)); clear HO_0; clear HO_7; clear HO_46; clear HL150_4; clear HR150_4; clear HB; have HO_0 := n0_; have HO_7 := n1_; have HO_46 := n2_; have HL150_4 := n3_; have HR150_4 := n4_; have HB := n5_; have BK151 := n6_; have GW151 := n7_; have GE151 := n8_; clear n0_ n1_ n2_ n3_ n4_ n5_ n6_ n7_ n8_; clear hb hbox hg; have hcz27_0 : w26.cell? ⟨gb151, 0, none⟩ = some (.int .i64 0) := (blk_cell BK151.out 0).trans rfl; have hcz27_1 : w26.cell? ⟨gb151, 1, none⟩ = some (.int .u8 0) := (blk_cell BK151.out 1).trans rfl; have hcz27_2 : w26.cell? ⟨gb151, 2, none⟩ = some (.int .u8 0) := (blk_cell BK151.out 2).trans rfl; have hcz27_3 : w26.cell? ⟨gb151, 3, none⟩ = some (.int .u8 0) := (blk_cell BK151.out 3).trans rfl; have hcz27_4 : w26.cell? ⟨gb151, 4, none⟩ = some (.slice none 0 0) := (blk_cell BK151.out 4).trans rfl; have hcz27_5 : w26.cell? ⟨gb151, 5, none⟩ = some (.int .u8 0) := (blk_cell BK151.out 5).trans rfl; have hcz27_6 : w26.cell? ⟨gb151, 6, none⟩ = some (.int .u8 0) := (blk_cell BK151.out 6).trans rfl; have hfz27_0 := blk_frozen BK151.out 0; have hfz27_1 := blk_frozen BK151.out 1; have hfz27_2 := blk_frozen BK151.out 2; have hfz27_3 := blk_frozen BK151.out 3; have hfz27_4 := blk_frozen BK151.out 4; have hfz27_5 := blk_frozen BK151.out 5; have hfz27_6 := blk_frozen BK151.out 6))
                              go_ret
                              exact ⟨by first | rfl | (simp [errW_none, errW_some] <;> rfl) | (simp [*, errW_none, errW_some] <;> rfl), by repeat (first | (with_reducible first | exact HB.out | apply below_alloc | apply Go.Proofs.Ytnjbobboookfmaa.Ext.below_bytes | apply pw_below_drewN | apply below_drew1 | refine below_set ?_ GE151.out) | exact HB.out)⟩
                            · rw [if_neg c25] at H
                              have c25b0 : decide (15 < ((rd_T27 l0 x48_3).f1)) = false := decide_eq_false c25
                              clear c25
                              by_cases c28 : ((rd_T27 l0 x48_3).f5) > 15
                              · rw [if_pos c28] at H
                                have c28b0 : decide (15 < ((rd_T27 l0 x48_3).f5)) = true := decide_eq_true c28
                                clear c28
                                obtain rfl := Option.some.inj H
                                have p150 : 0 ≤ (x48_3 : Int) := of_decide_eq_true (by first | (with_reducible assumption) | assumption)
                                have q150 : x48_3 < (l0.length : Int) := of_decide_eq_true (by first | (with_reducible assumption) | assumption)
                                obtain ⟨ad150, A150_4, c150_4, e150, hx150_0, hx150_1, hx150_2, hx150_3, hx150_4, hx150_5, hx150_6, hl150_4, hi150_4⟩ := at_T27 (Kd.V_reads' HO_46.out).2.2 x48_3 p150 q150
                                cases e150
                                obtain ⟨ce150, hce150, hMe150, hcc150⟩ := Kd.V_get HO_46.out z27 x48_3 p150 (by first | exact q150 | exact of_decide_eq_true (by first | (with_reducible assumption) | assumption) | (have e_ := (Kd.V_reads' HO_46.out).1; omega))
                                obtain ⟨ua150_4, uc150_4, rfl, ul150_4, ge150_4⟩ := k27_openF hMe150
                                have hv150_4 := hcc150 4 _ rfl
                                rw [add_field _ _ 4 (by omega)] at hv150_4
                                replace hv150_4 := Option.some.inj (hv150_4.symm.trans hx150_4)
                                injection hv150_4 with hva_ hvn_ hvc_
                                rw [hva_] at ge150_4
                                rw [hvc_] at ul150_4
                                have HL150_4 := Aside0.mk (show Kd.V (Kd.int .u8) 5 _ w.heap.size _ _ ((rd_T27 l0 x48_3).f4) from Kd.V_mk ul150_4 ge150_4)
                                clear hva_ hvn_ hvc_ ge150_4 ul150_4
                                clear hcc150 hce150
                                have HR150_4 := Aside0.mk hi150_4
                                have HC150_4 := Aside0.mk hl150_4
                                clear hi150_4 hl150_4
                                replace p150 := eq_true p150
                                replace q150 := eq_true q150
                                go_wp2_with (first | ((with_reducible refine gate_dst (N := 9) rfl ?_); (try (refine gate_guard (by rfl) ?_; dsimp only)); refine box_event ?hg (N := 9) ?hd (cs := #[.int .i64 0, .int .u8 0, .int .u8 0, .int .u8 0, .slice none 0 0, .int .u8 0, .int .u8 0]) (t := 27) ?hr ?_; (case hd => rfl); (case hg => rfl); (case hr => first | (go_simp; done) | (go_simp; rfl)); intro gb151 hg w29 hbox hb; have n0_ := Aside0.mk (Kd.V_below (Kd.V_elderB (by (with_reducible repeat (first | apply Kd.V_alloc | apply Go.Proofs.Ytnjbobboookfmaa.Ext.R_bytes | apply Kd.V_drewN | apply Kd.V_drew)); exact HO_0.out) gb151 (Nat.le_of_eq hg.symm)) hb); have n1_ := Aside0.mk (Kd.N_below (Kd.N_elderB (by (with_reducible repeat (first | apply Kd.N_alloc | apply Go.Proofs.Ytnjbobboookfmaa.Ext.R_bytes | apply Kd.N_drewN | apply Kd.N_drew)); exact HO_7.out) gb151 (Nat.le_of_eq hg.symm)) hb); have n2_ := Aside0.mk (Kd.V_below (Kd.V_elderB (by (with_reducible repeat (first | apply Kd.V_alloc | apply Go.Proofs.Ytnjbobboookfmaa.Ext.R_bytes | apply Kd.V_drewN | apply Kd.V_drew)); exact HO_46.out) gb151 (Nat.le_of_eq hg.symm)) hb); have n3_ := Aside0.mk (Kd.V_below (Kd.V_elderB (by (with_reducible repeat (first | apply Kd.V_alloc | apply Go.Proofs.Ytnjbobboookfmaa.Ext.R_bytes | apply Kd.V_drewN | apply Kd.V_drew)); exact HL150_4.out) gb151 (Nat.le_of_eq hg.symm)) hb); have n4_ := Aside0.mk (Kd.C_below (by repeat (first | (with_reducible exact HR150_4.out) | (with_reducible refine Kd.C_alloc ?_ _) | (with_reducible refine Kd.C_drewN ?_ _) | (with_reducible refine Kd.C_drew ?_) | exact HR150_4.out)) hb); have n5_ := Aside0.mk (below_step (by repeat (first | (with_reducible first | exact HB.out | apply below_alloc | apply Go.Proofs.Ytnjbobboookfmaa.Ext.below_bytes | apply pw_below_drewN | apply below_drew1) | exact HB.out)) hb); have n6_ := Aside0.mk (hbox); have n7_ := Aside0.mk ((by rw [hg]; exact (below_size (by repeat (first | (with_reducible first | exact HB.out | apply below_alloc | apply Go.Proofs.Ytnjbobboookfmaa.Ext.below_bytes | apply pw_below_drewN | apply below_drew1) | exact HB.out))) : w.heap.size ≤ gb151)); have n8_ := Aside0.mk ((by rw [hg]; exact (below_size (by repeat (first | (with_reducible first | exact HB.out | apply below_alloc | apply Go.Proofs.Ytnjbobboookfmaa.Ext.below_bytes | apply pw_below_drewN | apply below_drew1) | exact HB.out))) : w.heap.size ≤ gb151)); clear HO_0; clear HO_7; clear HO_46; clear HL150_4; clear HR150_4; clear HB; have HO_0 := n0_; have HO_7 := n1_; have HO_46 := n2_; have HL150_4 := n3_; have HR150_4 := n4_; have HB := n5_; have BK151 := n6_; have GW151 := n7_; have GE151 := n8_; clear n0_ n1_ n2_ n3_ n4_ n5_ n6_ n7_ n8_; clear hb hbox hg; have hcz30_0 : w29.cell? ⟨gb151, 0, none⟩ = some (.int .i64 0) := (blk_cell BK151.out 0).trans rfl; have hcz30_1 : w29.cell? ⟨gb151, 1, none⟩ = some (.int .u8 0) := (blk_cell BK151.out 1).trans rfl; have hcz30_2 : w29.cell? ⟨gb151, 2, none⟩ = some (.int .u8 0) := (blk_cell BK151.out 2).trans rfl; have hcz30_3 : w29.cell? ⟨gb151, 3, none⟩ = some (.int .u8 0) := (blk_cell BK151.out 3).trans rfl; have hcz30_4 : w29.cell? ⟨gb151, 4, none⟩ = some (.slice none 0 0) := (blk_cell BK151.out 4).trans rfl; have hcz30_5 : w29.cell? ⟨gb151, 5, none⟩ = some (.int .u8 0) := (blk_cell BK151.out 5).trans rfl; have hcz30_6 : w29.cell? ⟨gb151, 6, none⟩ = some (.int .u8 0) := (blk_cell BK151.out 6).trans rfl; have hfz30_0 := blk_frozen BK151.out 0; have hfz30_1 := blk_frozen BK151.out 1; have hfz30_2 := blk_frozen BK151.out 2; have hfz30_3 := blk_frozen BK151.out 3; have hfz30_4 := blk_frozen BK151.out 4; have hfz30_5 := blk_frozen BK151.out 5; have hfz30_6 := blk_frozen BK151.out 6))
                                go_ret
                                exact ⟨by first | rfl | (simp [errW_none, errW_some] <;> rfl) | (simp [*, errW_none, errW_some] <;> rfl), by repeat (first | (with_reducible first | exact HB.out | apply below_alloc | apply Go.Proofs.Ytnjbobboookfmaa.Ext.below_bytes | apply pw_below_drewN | apply below_drew1 | refine below_set ?_ GE151.out) | exact HB.out)⟩
                              · rw [if_neg c28] at H
                                have c28b0 : decide (15 < ((rd_T27 l0 x48_3).f5)) = false := decide_eq_false c28
                                clear c28
                                by_cases c31 : ((rd_T27 l0 x48_3).f6) > 15
                                · rw [if_pos c31] at H
                                  have c31b0 : decide (15 < ((rd_T27 l0 x48_3).f6)) = true := decide_eq_true c31
                                  clear c31
                                  obtain rfl := Option.some.inj H
                                  have p150 : 0 ≤ (x48_3 : Int) := of_decide_eq_true (by first | (with_reducible assumption) | assumption)
                                  have q150 : x48_3 < (l0.length : Int) := of_decide_eq_true (by first | (with_reducible assumption) | assumption)
                                  obtain ⟨ad150, A150_4, c150_4, e150, hx150_0, hx150_1, hx150_2, hx150_3, hx150_4, hx150_5, hx150_6, hl150_4, hi150_4⟩ := at_T27 (Kd.V_reads' HO_46.out).2.2 x48_3 p150 q150
                                  cases e150
                                  obtain ⟨ce150, hce150, hMe150, hcc150⟩ := Kd.V_get HO_46.out z27 x48_3 p150 (by first | exact q150 | exact of_decide_eq_true (by first | (with_reducible assumption) | assumption) | (have e_ := (Kd.V_reads' HO_46.out).1; omega))
                                  obtain ⟨ua150_4, uc150_4, rfl, ul150_4, ge150_4⟩ := k27_openF hMe150
                                  have hv150_4 := hcc150 4 _ rfl
                                  rw [add_field _ _ 4 (by omega)] at hv150_4
                                  replace hv150_4 := Option.some.inj (hv150_4.symm.trans hx150_4)
                                  injection hv150_4 with hva_ hvn_ hvc_
                                  rw [hva_] at ge150_4
                                  rw [hvc_] at ul150_4
                                  have HL150_4 := Aside0.mk (show Kd.V (Kd.int .u8) 5 _ w.heap.size _ _ ((rd_T27 l0 x48_3).f4) from Kd.V_mk ul150_4 ge150_4)
                                  clear hva_ hvn_ hvc_ ge150_4 ul150_4
                                  clear hcc150 hce150
                                  have HR150_4 := Aside0.mk hi150_4
                                  have HC150_4 := Aside0.mk hl150_4
                                  clear hi150_4 hl150_4
                                  replace p150 := eq_true p150
                                  replace q150 := eq_true q150
                                  go_wp2_with (first | ((with_reducible refine gate_dst (N := 9) rfl ?_); (try (refine gate_guard (by rfl) ?_; dsimp only)); refine box_event ?hg (N := 9) ?hd (cs := #[.int .i64 0, .int .u8 0, .int .u8 0, .int .u8 0, .slice none 0 0, .int .u8 0, .int .u8 0]) (t := 27) ?hr ?_; (case hd => rfl); (case hg => rfl); (case hr => first | (go_simp; done) | (go_simp; rfl)); intro gb151 hg w32 hbox hb; have n0_ := Aside0.mk (Kd.V_below (Kd.V_elderB (by (with_reducible repeat (first | apply Kd.V_alloc | apply Go.Proofs.Ytnjbobboookfmaa.Ext.R_bytes | apply Kd.V_drewN | apply Kd.V_drew)); exact HO_0.out) gb151 (Nat.le_of_eq hg.symm)) hb); have n1_ := Aside0.mk (Kd.N_below (Kd.N_elderB (by (with_reducible repeat (first | apply Kd.N_alloc | apply Go.Proofs.Ytnjbobboookfmaa.Ext.R_bytes | apply Kd.N_drewN | apply Kd.N_drew)); exact HO_7.out) gb151 (Nat.le_of_eq hg.symm)) hb); have n2_ := Aside0.mk (Kd.V_below (Kd.V_elderB (by (with_reducible repeat (first | apply Kd.V_alloc | apply Go.Proofs.Ytnjbobboookfmaa.Ext.R_bytes | apply Kd.V_drewN | apply Kd.V_drew)); exact HO_46.out) gb151 (Nat.le_of_eq hg.symm)) hb); have n3_ := Aside0.mk (Kd.V_below (Kd.V_elderB (by (with_reducible repeat (first | apply Kd.V_alloc | apply Go.Proofs.Ytnjbobboookfmaa.Ext.R_bytes | apply Kd.V_drewN | apply Kd.V_drew)); exact HL150_4.out) gb151 (Nat.le_of_eq hg.symm)) hb); have n4_ := Aside0.mk (Kd.C_below (by repeat (first | (with_reducible exact HR150_4.out) | (with_reducible refine Kd.C_alloc ?_ _) | (with_reducible refine Kd.C_drewN ?_ _) | (with_reducible refine Kd.C_drew ?_) | exact HR150_4.out)) hb); have n5_ := Aside0.mk (below_step (by repeat (first | (with_reducible first | exact HB.out | apply below_alloc | apply Go.Proofs.Ytnjbobboookfmaa.Ext.below_bytes | apply pw_below_drewN | apply below_drew1) | exact HB.out)) hb); have n6_ := Aside0.mk (hbox); have n7_ := Aside0.mk ((by rw [hg]; exact (below_size (by repeat (first | (with_reducible first | exact HB.out | apply below_alloc | apply Go.Proofs.Ytnjbobboookfmaa.Ext.below_bytes | apply pw_below_drewN | apply below_drew1) | exact HB.out))) : w.heap.size ≤ gb151)); have n8_ := Aside0.mk ((by rw [hg]; exact (below_size (by repeat (first | (with_reducible first | exact HB.out | apply below_alloc | apply Go.Proofs.Ytnjbobboookfmaa.Ext.below_bytes | apply pw_below_drewN | apply below_drew1) | exact HB.out))) : w.heap.size ≤ gb151)); clear HO_0; clear HO_7; clear HO_46; clear HL150_4; clear HR150_4; clear HB; have HO_0 := n0_; have HO_7 := n1_; have HO_46 := n2_; have HL150_4 := n3_; have HR150_4 := n4_; have HB := n5_; have BK151 := n6_; have GW151 := n7_; have GE151 := n8_; clear n0_ n1_ n2_ n3_ n4_ n5_ n6_ n7_ n8_; clear hb hbox hg; have hcz33_0 : w32.cell? ⟨gb151, 0, none⟩ = some (.int .i64 0) := (blk_cell BK151.out 0).trans rfl; have hcz33_1 : w32.cell? ⟨gb151, 1, none⟩ = some (.int .u8 0) := (blk_cell BK151.out 1).trans rfl; have hcz33_2 : w32.cell? ⟨gb151, 2, none⟩ = some (.int .u8 0) := (blk_cell BK151.out 2).trans rfl; have hcz33_3 : w32.cell? ⟨gb151, 3, none⟩ = some (.int .u8 0) := (blk_cell BK151.out 3).trans rfl; have hcz33_4 : w32.cell? ⟨gb151, 4, none⟩ = some (.slice none 0 0) := (blk_cell BK151.out 4).trans rfl; have hcz33_5 : w32.cell? ⟨gb151, 5, none⟩ = some (.int .u8 0) := (blk_cell BK151.out 5).trans rfl; have hcz33_6 : w32.cell? ⟨gb151, 6, none⟩ = some (.int .u8 0) := (blk_cell BK151.out 6).trans rfl; have hfz33_0 := blk_frozen BK151.out 0; have hfz33_1 := blk_frozen BK151.out 1; have hfz33_2 := blk_frozen BK151.out 2; have hfz33_3 := blk_frozen BK151.out 3; have hfz33_4 := blk_frozen BK151.out 4; have hfz33_5 := blk_frozen BK151.out 5; have hfz33_6 := blk_frozen BK151.out 6))
                                  go_ret
                                  exact ⟨by first | rfl | (simp [errW_none, errW_some] <;> rfl) | (simp [*, errW_none, errW_some] <;> rfl), by repeat (first | (with_reducible first | exact HB.out | apply below_alloc | apply Go.Proofs.Ytnjbobboookfmaa.Ext.below_bytes | apply pw_below_drewN | apply below_drew1 | refine below_set ?_ GE151.out) | exact HB.out)⟩
                                · rw [if_neg c31] at H
                                  have c31b0 : decide (15 < ((rd_T27 l0 x48_3).f6)) = false := decide_eq_false c31
                                  clear c31
                                  by_cases c34 : (((rd_T27 l0 x48_3).f4).length : Int) > 300
                                  · rw [if_pos c34] at H
                                    have c34b0 : decide (300 < (((rd_T27 l0 x48_3).f4).length : Int)) = true := decide_eq_true c34
                                    (try (have c34b90 := c34b0; simp only [hl150_4] at c34b90))
                                    have c34b1 : decide (300 < ((rd_T27 l0 x48_3).f4).length) = true := decide_eq_true (by omega)
                                    clear c34
                                    obtain rfl := Option.some.inj H
                                    have p150 : 0 ≤ (x48_3 : Int) := of_decide_eq_true (by first | (with_reducible assumption) | assumption)
                                    have q150 : x48_3 < (l0.length : Int) := of_decide_eq_true (by first | (with_reducible assumption) | assumption)
                                    obtain ⟨ad150, A150_4, c150_4, e150, hx150_0, hx150_1, hx150_2, hx150_3, hx150_4, hx150_5, hx150_6, hl150_4, hi150_4⟩ := at_T27 (Kd.V_reads' HO_46.out).2.2 x48_3 p150 q150
                                    cases e150
                                    obtain ⟨ce150, hce150, hMe150, hcc150⟩ := Kd.V_get HO_46.out z27 x48_3 p150 (by first | exact q150 | exact of_decide_eq_true (by first | (with_reducible assumption) | assumption) | (have e_ := (Kd.V_reads' HO_46.out).1; omega))
                                    obtain ⟨ua150_4, uc150_4, rfl, ul150_4, ge150_4⟩ := k27_openF hMe150
                                    have hv150_4 := hcc150 4 _ rfl
                                    rw [add_field _ _ 4 (by omega)] at hv150_4
                                    replace hv150_4 := Option.some.inj (hv150_4.symm.trans hx150_4)
                                    injection hv150_4 with hva_ hvn_ hvc_
                                    rw [hva_] at ge150_4
                                    rw [hvc_] at ul150_4
                                    have HL150_4 := Aside0.mk (show Kd.V (Kd.int .u8) 5 _ w.heap.size _ _ ((rd_T27 l0 x48_3).f4) from Kd.V_mk ul150_4 ge150_4)
                                    clear hva_ hvn_ hvc_ ge150_4 ul150_4
                                    clear hcc150 hce150
                                    have HR150_4 := Aside0.mk hi150_4
                                    have HC150_4 := Aside0.mk hl150_4
                                    clear hi150_4 hl150_4
                                    replace p150 := eq_true p150
                                    replace q150 := eq_true q150
                                    go_wp2_with (first | ((with_reducible refine gate_dst (N := 9) rfl ?_); (try (refine gate_guard (by rfl) ?_; dsimp only)); refine box_event ?hg (N := 9) ?hd (cs := #[.int .i64 0, .int .u8 0, .int .u8 0, .int .u8 0, .slice none 0 0, .int .u8 0, .int .u8 0]) (t := 27) ?hr ?_; (case hd => rfl); (case hg => rfl); (case hr => first | (go_simp; done) | (go_simp; rfl)); intro gb151 hg w35 hbox hb; have n0_ := Aside0.mk (Kd.V_below (Kd.V_elderB (by (with_reducible repeat (first | apply Kd.V_alloc | apply Go.Proofs.Ytnjbobboookfmaa.Ext.R_bytes | apply Kd.V_drewN | apply Kd.V_drew)); exact HO_0.out) gb151 (Nat.le_of_eq hg.symm)) hb); have n1_ := Aside0.mk (Kd.N_below (Kd.N_elderB (by (with_reducible repeat (first | apply Kd.N_alloc | apply Go.Proofs.Ytnjbobboookfmaa.Ext.R_bytes | apply Kd.N_drewN | apply Kd.N_drew)); exact HO_7.out) gb151 (Nat.le_of_eq hg.symm)) hb); have n2_ := Aside0.mk (Kd.V_below (Kd.V_elderB (by (with_reducible repeat (first | apply Kd.V_alloc | apply Go.Proofs.Ytnjbobboookfmaa.Ext.R_bytes | apply Kd.V_drewN | apply Kd.V_drew)); exact HO_46.out) gb151 (Nat.le_of_eq hg.symm)) hb); have n3_ := Aside0.mk (Kd.V_below (Kd.V_elderB (by (with_reducible repeat (first | apply Kd.V_alloc | apply Go.Proofs.Ytnjbobboookfmaa.Ext.R_bytes | apply Kd.V_drewN | apply Kd.V_drew)); exact HL150_4.out) gb151 (Nat.le_of_eq hg.symm)) hb); have n4_ := Aside0.mk (Kd.C_below (by repeat (first | (with_reducible exact HR150_4.out) | (with_reducible refine Kd.C_alloc ?_ _) | (with_reducible refine Kd.C_drewN ?_ _) | (with_reducible refine Kd.C_drew ?_) | exact HR150_4.out)) hb); have n5_ := Aside0.mk (below_step (by repeat (first | (with_reducible first | exact HB.out | apply below_alloc | apply Go.Proofs.Ytnjbobboookfmaa.Ext.below_bytes | apply pw_below_drewN | apply below_drew1) | exact HB.out)) hb); have n6_ := Aside0.mk (hbox); have n7_ := Aside0.mk ((by rw [hg]; exact (below_size (by repeat (first | (with_reducible first | exact HB.out | apply below_alloc | apply Go.Proofs.Ytnjbobboookfmaa.Ext.below_bytes | apply pw_below_drewN | apply below_drew1) | exact HB.out))) : w.heap.size ≤ gb151)); have n8_ := Aside0.mk ((by rw [hg]; exact (below_size (by repeat (first | (with_reducible first | exact HB.out | apply below_alloc | apply Go.Proofs.Ytnjbobboookfmaa.Ext.below_bytes | apply pw_below_drewN | apply below_drew1) | exact HB.out))) : w.heap.size ≤ gb151)); clear HO_0; clear HO_7; clear HO_46; clear HL150_4; clear HR150_4; clear HB; have HO_0 := n0_; have HO_7 := n1_; have HO_46 := n2_; have HL150_4 := n3_; have HR150_4 := n4_; have HB := n5_; have BK151 := n6_; have GW151 := n7_; have GE151 := n8_; clear n0_ n1_ n2_ n3_ n4_ n5_ n6_ n7_ n8_; clear hb hbox hg; have hcz36_0 : w35.cell? ⟨gb151, 0, none⟩ = some (.int .i64 0) := (blk_cell BK151.out 0).trans rfl; have hcz36_1 : w35.cell? ⟨gb151, 1, none⟩ = some (.int .u8 0) := (blk_cell BK151.out 1).trans rfl; have hcz36_2 : w35.cell? ⟨gb151, 2, none⟩ = some (.int .u8 0) := (blk_cell BK151.out 2).trans rfl; have hcz36_3 : w35.cell? ⟨gb151, 3, none⟩ = some (.int .u8 0) := (blk_cell BK151.out 3).trans rfl; have hcz36_4 : w35.cell? ⟨gb151, 4, none⟩ = some (.slice none 0 0) := (blk_cell BK151.out 4).trans rfl; have hcz36_5 : w35.cell? ⟨gb151, 5, none⟩ = some (.int .u8 0) := (blk_cell BK151.out 5).trans rfl; have hcz36_6 : w35.cell? ⟨gb151, 6, none⟩ = some (.int .u8 0) := (blk_cell BK151.out 6).trans rfl; have hfz36_0 := blk_frozen BK151.out 0; have hfz36_1 := blk_frozen BK151.out 1; have hfz36_2 := blk_frozen BK151.out 2; have hfz36_3 := blk_frozen BK151.out 3; have hfz36_4 := blk_frozen BK151.out 4; have hfz36_5 := blk_frozen BK151.out 5; have hfz36_6 := blk_frozen BK151.out 6))
                                    go_ret
                                    exact ⟨by first | rfl | (simp [errW_none, errW_some] <;> rfl) | (simp [*, errW_none, errW_some] <;> rfl), by repeat (first | (with_reducible first | exact HB.out | apply below_alloc | apply Go.Proofs.Ytnjbobboookfmaa.Ext.below_bytes | apply pw_below_drewN | apply below_drew1 | refine below_set ?_ GE151.out) | exact HB.out)⟩
                                  · rw [if_neg c34] at H
                                    have c34b0 : decide (300 < (((rd_T27 l0 x48_3).f4).length : Int)) = false := decide_eq_false c34
                                    (try (have c34b90 := c34b0; simp only [hl150_4] at c34b90))
                                    have c34b1 : decide (300 < ((rd_T27 l0 x48_3).f4).length) = false := decide_eq_false (by omega)
                                    clear c34
                                    replace H := Option.bind_eq_some_iff.mp H
                                    obtain ⟨t152, A370, H⟩ := H
                                    replace H : (if x7_3.length < 3518437208883 then (laws_FnTableSteps.l0 k3 l0 l1 l2 (x7_3 ++ [(⟨(rd_T27 l0 x48_3).f0, (rd_T27 l0 x48_3).f2, (rd_T27 l0 x48_3).f3, (rd_T27 l0 x48_3).f1, (rd_T27 l0 x48_3).f5, (rd_T27 l0 x48_3).f6, t152⟩ : S30)]) l0 (l0.length : Int) (wrap64 (x48_3 + 1))) else (none)) = some r := H
                                    have A37 := Aside0.mk A370
                                    clear A370
                                    by_cases c38 : x7_3.length < 3518437208883
                                    · rw [if_pos c38] at H
                                      have LMc38 := Aside0.mk c38
                                      clear c38
                                      obtain ⟨y155, hy155⟩ : ∃ y_ : List (S30), y_ = (x7_3 ++ [(⟨(rd_T27 l0 x48_3).f0, (rd_T27 l0 x48_3).f2, (rd_T27 l0 x48_3).f3, (rd_T27 l0 x48_3).f1, (rd_T27 l0 x48_3).f5, (rd_T27 l0 x48_3).f6, t152⟩ : S30)]) := ⟨_, rfl⟩
                                      replace H : (laws_FnTableSteps.l0 k3 l0 l1 l2 y155 l0 (l0.length : Int) (wrap64 (x48_3 + 1))) = some r := by first | (rw [hy155]; with_reducible exact H) | (have H2_ := (Option.bind_some _ _).symm.trans H; rw [hy155]; with_reducible exact H2_) | (have H2_ := (Option.bind_some _ _).symm.trans H; with_reducible exact H2_) | with_reducible exact H | (rw [hy155]; exact H) | exact H
                                      have Ny155 := Aside0.mk hy155
                                      clear hy155
                                      have H' := Aside0.mk H
                                      clear H
                                      have p150 : 0 ≤ (x48_3 : Int) := of_decide_eq_true (by first | (with_reducible assumption) | assumption)
                                      have q150 : x48_3 < (l0.length : Int) := of_decide_eq_true (by first | (with_reducible assumption) | assumption)
                                      obtain ⟨ad150, A150_4, c150_4, e150, hx150_0, hx150_1, hx150_2, hx150_3, hx150_4, hx150_5, hx150_6, hl150_4, hi150_4⟩ := at_T27 (Kd.V_reads' HO_46.out).2.2 x48_3 p150 q150
                                      cases e150
                                      obtain ⟨ce150, hce150, hMe150, hcc150⟩ := Kd.V_get HO_46.out z27 x48_3 p150 (by first | exact q150 | exact of_decide_eq_true (by first | (with_reducible assumption) | assumption) | (have e_ := (Kd.V_reads' HO_46.out).1; omega))
                                      obtain ⟨ua150_4, uc150_4, rfl, ul150_4, ge150_4⟩ := k27_openF hMe150
                                      have hv150_4 := hcc150 4 _ rfl
                                      rw [add_field _ _ 4 (by omega)] at hv150_4
                                      replace hv150_4 := Option.some.inj (hv150_4.symm.trans hx150_4)
                                      injection hv150_4 with hva_ hvn_ hvc_
                                      rw [hva_] at ge150_4
                                      rw [hvc_] at ul150_4
                                      have HL150_4 := Aside0.mk (show Kd.V (Kd.int .u8) 5 _ w.heap.size _ _ ((rd_T27 l0 x48_3).f4) from Kd.V_mk ul150_4 ge150_4)
                                      clear hva_ hvn_ hvc_ ge150_4 ul150_4
                                      clear hcc150 hce150
                                      have HR150_4 := Aside0.mk hi150_4
                                      have HC150_4 := Aside0.mk hl150_4
                                      clear hi150_4 hl150_4
                                      replace p150 := eq_true p150
                                      replace q150 := eq_true q150
                                      try go_wp2_with (first | ((with_reducible refine gate_dst (N := 9) rfl ?_); (try (refine gate_guard (by rfl) ?_; dsimp only)); refine box_event ?hg (N := 9) ?hd (cs := #[.int .i64 0, .int .u8 0, .int .u8 0, .int .u8 0, .slice none 0 0, .int .u8 0, .int .u8 0]) (t := 27) ?hr ?_; (case hd => rfl); (case hg => rfl); (case hr => first | (go_simp; done) | (go_simp; rfl)); intro gb151 hg w39 hbox hb; have n0_ := Aside0.mk (Kd.V_below (Kd.V_elderB (by (with_reducible repeat (first | apply Kd.V_alloc | apply Go.Proofs.Ytnjbobboookfmaa.Ext.R_bytes | apply Kd.V_drewN | apply Kd.V_drew)); exact HO_0.out) gb151 (Nat.le_of_eq hg.symm)) hb); have n1_ := Aside0.mk (Kd.N_below (Kd.N_elderB (by (with_reducible repeat (first | apply Kd.N_alloc | apply Go.Proofs.Ytnjbobboookfmaa.Ext.R_bytes | apply Kd.N_drewN | apply Kd.N_drew)); exact HO_7.out) gb151 (Nat.le_of_eq hg.symm)) hb); have n2_ := Aside0.mk (Kd.V_below (Kd.V_elderB (by (with_reducible repeat (first | apply Kd.V_alloc | apply Go.Proofs.Ytnjbobboookfmaa.Ext.R_bytes | apply Kd.V_drewN | apply Kd.V_drew)); exact HO_46.out) gb151 (Nat.le_of_eq hg.symm)) hb); have n3_ := Aside0.mk (Kd.V_below (Kd.V_elderB (by (with_reducible repeat (first | apply Kd.V_alloc | apply Go.Proofs.Ytnjbobboookfmaa.Ext.R_bytes | apply Kd.V_drewN | apply Kd.V_drew)); exact HL150_4.out) gb151 (Nat.le_of_eq hg.symm)) hb); have n4_ := Aside0.mk (Kd.C_below (by repeat (first | (with_reducible exact HR150_4.out) | (with_reducible refine Kd.C_alloc ?_ _) | (with_reducible refine Kd.C_drewN ?_ _) | (with_reducible refine Kd.C_drew ?_) | exact HR150_4.out)) hb); have n5_ := Aside0.mk (below_step (by repeat (first | (with_reducible first | exact HB.out | apply below_alloc | apply Go.Proofs.Ytnjbobboookfmaa.Ext.below_bytes | apply pw_below_drewN | apply below_drew1) | exact HB.out)) hb); have n6_ := Aside0.mk (hbox); have n7_ := Aside0.mk ((by rw [hg]; exact (below_size (by repeat (first | (with_reducible first | exact HB.out | apply below_alloc | apply Go.Proofs.Ytnjbobboookfmaa.Ext.below_bytes | apply pw_below_drewN | apply below_drew1) | exact HB.out))) : w.heap.size ≤ gb151)); have n8_ := Aside0.mk ((by rw [hg]; exact (below_size (by repeat (first | (with_reducible first | exact HB.out | apply below_alloc | apply Go.Proofs.Ytnjbobboookfmaa.Ext.below_bytes | apply pw_below_drewN | apply below_drew1) | exact HB.out))) : w.heap.size ≤ gb151)); clear HO_0; clear HO_7; clear HO_46; clear HL150_4; clear HR150_4; clear HB; have HO_0 := n0_; have HO_7 := n1_; have HO_46 := n2_; have HL150_4 := n3_; have HR150_4 := n4_; have HB := n5_; have BK151 := n6_; have GW151 := n7_; have GE151 := n8_; clear n0_ n1_ n2_ n3_ n4_ n5_ n6_ n7_ n8_; clear hb hbox hg; have hcz40_0 : w39.cell? ⟨gb151, 0, none⟩ = some (.int .i64 0) := (blk_cell BK151.out 0).trans rfl; have hcz40_1 : w39.cell? ⟨gb151, 1, none⟩ = some (.int .u8 0) := (blk_cell BK151.out 1).trans rfl; have hcz40_2 : w39.cell? ⟨gb151, 2, none⟩ = some (.int .u8 0) := (blk_cell BK151.out 2).trans rfl; have hcz40_3 : w39.cell? ⟨gb151, 3, none⟩ = some (.int .u8 0) := (blk_cell BK151.out 3).trans rfl; have hcz40_4 : w39.cell? ⟨gb151, 4, none⟩ = some (.slice none 0 0) := (blk_cell BK151.out 4).trans rfl; have hcz40_5 : w39.cell? ⟨gb151, 5, none⟩ = some (.int .u8 0) := (blk_cell BK151.out 5).trans rfl; have hcz40_6 : w39.cell? ⟨gb151, 6, none⟩ = some (.int .u8 0) := (blk_cell BK151.out 6).trans rfl; have hfz40_0 := blk_frozen BK151.out 0; have hfz40_1 := blk_frozen BK151.out 1; have hfz40_2 := blk_frozen BK151.out 2; have hfz40_3 := blk_frozen BK151.out 3; have hfz40_4 := blk_frozen BK151.out 4; have hfz40_5 := blk_frozen BK151.out 5; have hfz40_6 := blk_frozen BK151.out 6))
                                      have n0_ : Aside0 (Kd.V k27 27 (((((((w39.setCell ⟨gb151, 0, none⟩ (.int .i64 ((rd_T27 l0 x48_3).f0))).setCell ⟨gb151, 1, none⟩ (.int .u8 ((rd_T27 l0 x48_3).f1))).setCell ⟨gb151, 2, none⟩ (.int .u8 ((rd_T27 l0 x48_3).f2))).setCell ⟨gb151, 3, none⟩ (.int .u8 ((rd_T27 l0 x48_3).f3))).setCell ⟨gb151, 4, none⟩ (.slice A150_4 ((rd_T27 l0 x48_3).f4).length c150_4)).setCell ⟨gb151, 5, none⟩ (.int .u8 ((rd_T27 l0 x48_3).f5))).setCell ⟨gb151, 6, none⟩ (.int .u8 ((rd_T27 l0 x48_3).f6))) w.heap.size (fun k_ => (P0_ k_ ∨ w.heap.size ≤ k_) ∧ some k_ ≠ (u7 : Value).ownBlock ∧ k_ ≠ gb151) (.slice (some ad150) l0.length c0) l0) := ⟨by (with_reducible repeat (first | apply Kd.V_alloc | apply Go.Proofs.Ytnjbobboookfmaa.Ext.R_bytes | apply Kd.V_drewN | apply Kd.V_drew)); exact Kd.V_mono (Kd.V_far (p := ⟨gb151, 6, none⟩) (Kd.V_far (p := ⟨gb151, 5, none⟩) (Kd.V_far (p := ⟨gb151, 4, none⟩) (Kd.V_far (p := ⟨gb151, 3, none⟩) (Kd.V_far (p := ⟨gb151, 2, none⟩) (Kd.V_far (p := ⟨gb151, 1, none⟩) (Kd.V_far (p := ⟨gb151, 0, none⟩) (Kd.V_mono HO_0.out (fun k_ hk => (⟨hk, hk.2⟩ : _ ∧ k_ ≠ gb151))) (fun _ hk => hk.2) (.int .i64 ((rd_T27 l0 x48_3).f0))) (fun _ hk => hk.2) (.int .u8 ((rd_T27 l0 x48_3).f1))) (fun _ hk => hk.2) (.int .u8 ((rd_T27 l0 x48_3).f2))) (fun _ hk => hk.2) (.int .u8 ((rd_T27 l0 x48_3).f3))) (fun _ hk => hk.2) (.slice A150_4 ((rd_T27 l0 x48_3).f4).length c150_4)) (fun _ hk => hk.2) (.int .u8 ((rd_T27 l0 x48_3).f5))) (fun _ hk => hk.2) (.int .u8 ((rd_T27 l0 x48_3).f6))) (fun _ hk => ⟨hk.1.1.1, ⟨hk.1.1.2, hk.1.2⟩⟩)⟩
                                      have n1_ : Aside0 (Kd.N k30 30 (((((((w39.setCell ⟨gb151, 0, none⟩ (.int .i64 ((rd_T27 l0 x48_3).f0))).setCell ⟨gb151, 1, none⟩ (.int .u8 ((rd_T27 l0 x48_3).f1))).setCell ⟨gb151, 2, none⟩ (.int .u8 ((rd_T27 l0 x48_3).f2))).setCell ⟨gb151, 3, none⟩ (.int .u8 ((rd_T27 l0 x48_3).f3))).setCell ⟨gb151, 4, none⟩ (.slice A150_4 ((rd_T27 l0 x48_3).f4).length c150_4)).setCell ⟨gb151, 5, none⟩ (.int .u8 ((rd_T27 l0 x48_3).f5))).setCell ⟨gb151, 6, none⟩ (.int .u8 ((rd_T27 l0 x48_3).f6))) w.heap.size (fun k_ => (P0_ k_ ∨ w.heap.size ≤ k_) ∧ k_ ≠ gb151) u7 x7_3) := ⟨by (with_reducible repeat (first | apply Kd.N_alloc | apply Go.Proofs.Ytnjbobboookfmaa.Ext.R_bytes | apply Kd.N_drewN | apply Kd.N_drew)); exact Kd.N_mono (Kd.N_far (p := ⟨gb151, 6, none⟩) (Kd.N_far (p := ⟨gb151, 5, none⟩) (Kd.N_far (p := ⟨gb151, 4, none⟩) (Kd.N_far (p := ⟨gb151, 3, none⟩) (Kd.N_far (p := ⟨gb151, 2, none⟩) (Kd.N_far (p := ⟨gb151, 1, none⟩) (Kd.N_far (p := ⟨gb151, 0, none⟩) (Kd.N_mono HO_7.out (fun k_ hk => (⟨hk, hk.2⟩ : _ ∧ k_ ≠ gb151))) (fun _ hk => hk.2) (.int .i64 ((rd_T27 l0 x48_3).f0))) (fun _ hk => hk.2) (.int .u8 ((rd_T27 l0 x48_3).f1))) (fun _ hk => hk.2) (.int .u8 ((rd_T27 l0 x48_3).f2))) (fun _ hk => hk.2) (.int .u8 ((rd_T27 l0 x48_3).f3))) (fun _ hk => hk.2) (.slice A150_4 ((rd_T27 l0 x48_3).f4).length c150_4)) (fun _ hk => hk.2) (.int .u8 ((rd_T27 l0 x48_3).f5))) (fun _ hk => hk.2) (.int .u8 ((rd_T27 l0 x48_3).f6))) (fun _ hk => ⟨hk.1.1, hk.1.2⟩)⟩
                                      have n2_ : Aside0 (Kd.V k27 27 (((((((w39.setCell ⟨gb151, 0, none⟩ (.int .i64 ((rd_T27 l0 x48_3).f0))).setCell ⟨gb151, 1, none⟩ (.int .u8 ((rd_T27 l0 x48_3).f1))).setCell ⟨gb151, 2, none⟩ (.int .u8 ((rd_T27 l0 x48_3).f2))).setCell ⟨gb151, 3, none⟩ (.int .u8 ((rd_T27 l0 x48_3).f3))).setCell ⟨gb151, 4, none⟩ (.slice A150_4 ((rd_T27 l0 x48_3).f4).length c150_4)).setCell ⟨gb151, 5, none⟩ (.int .u8 ((rd_T27 l0 x48_3).f5))).setCell ⟨gb151, 6, none⟩ (.int .u8 ((rd_T27 l0 x48_3).f6))) w.heap.size (fun k_ => (P0_ k_ ∨ w.heap.size ≤ k_) ∧ some k_ ≠ (u7 : Value).ownBlock ∧ k_ ≠ gb151) (.slice (some ad150) l0.length c0) l0) := ⟨by (with_reducible repeat (first | apply Kd.V_alloc | apply Go.Proofs.Ytnjbobboookfmaa.Ext.R_bytes | apply Kd.V_drewN | apply Kd.V_drew)); exact Kd.V_mono (Kd.V_far (p := ⟨gb151, 6, none⟩) (Kd.V_far (p := ⟨gb151, 5, none⟩) (Kd.V_far (p := ⟨gb151, 4, none⟩) (Kd.V_far (p := ⟨gb151, 3, none⟩) (Kd.V_far (p := ⟨gb151, 2, none⟩) (Kd.V_far (p := ⟨gb151, 1, none⟩) (Kd.V_far (p := ⟨gb151, 0, none⟩) (Kd.V_mono HO_46.out (fun k_ hk => (⟨hk, hk.2⟩ : _ ∧ k_ ≠ gb151))) (fun _ hk => hk.2) (.int .i64 ((rd_T27 l0 x48_3).f0))) (fun _ hk => hk.2) (.int .u8 ((rd_T27 l0 x48_3).f1))) (fun _ hk => hk.2) (.int .u8 ((rd_T27 l0 x48_3).f2))) (fun _ hk => hk.2) (.int .u8 ((rd_T27 l0 x48_3).f3))) (fun _ hk => hk.2) (.slice A150_4 ((rd_T27 l0 x48_3).f4).length c150_4)) (fun _ hk => hk.2) (.int .u8 ((rd_T27 l0 x48_3).f5))) (fun _ hk => hk.2) (.int .u8 ((rd_T27 l0 x48_3).f6))) (fun _ hk => ⟨hk.1.1.1, ⟨hk.1.1.2, hk.1.2⟩⟩)⟩
                                      have n3_ : Aside0 (Kd.V (Kd.int .u8) 5 (((((((w39.setCell ⟨gb151, 0, none⟩ (.int .i64 ((rd_T27 l0 x48_3).f0))).setCell ⟨gb151, 1, none⟩ (.int .u8 ((rd_T27 l0 x48_3).f1))).setCell ⟨gb151, 2, none⟩ (.int .u8 ((rd_T27 l0 x48_3).f2))).setCell ⟨gb151, 3, none⟩ (.int .u8 ((rd_T27 l0 x48_3).f3))).setCell ⟨gb151, 4, none⟩ (.slice A150_4 ((rd_T27 l0 x48_3).f4).length c150_4)).setCell ⟨gb151, 5, none⟩ (.int .u8 ((rd_T27 l0 x48_3).f5))).setCell ⟨gb151, 6, none⟩ (.int .u8 ((rd_T27 l0 x48_3).f6))) w.heap.size (fun k_ => (P0_ k_ ∨ w.heap.size ≤ k_) ∧ some k_ ≠ (u7 : Value).ownBlock ∧ k_ ≠ gb151) (.slice A150_4 ((rd_T27 l0 x48_3).f4).length c150_4) ((rd_T27 l0 x48_3).f4)) := ⟨by (with_reducible repeat (first | apply Kd.V_alloc | apply Go.Proofs.Ytnjbobboookfmaa.Ext.R_bytes | apply Kd.V_drewN | apply Kd.V_drew)); exact Kd.V_mono (Kd.V_far (p := ⟨gb151, 6, none⟩) (Kd.V_far (p := ⟨gb151, 5, none⟩) (Kd.V_far (p := ⟨gb151, 4, none⟩) (Kd.V_far (p := ⟨gb151, 3, none⟩) (Kd.V_far (p := ⟨gb151, 2, none⟩) (Kd.V_far (p := ⟨gb151, 1, none⟩) (Kd.V_far (p := ⟨gb151, 0, none⟩) (Kd.V_mono HL150_4.out (fun k_ hk => (⟨hk, hk.2⟩ : _ ∧ k_ ≠ gb151))) (fun _ hk => hk.2) (.int .i64 ((rd_T27 l0 x48_3).f0))) (fun _ hk => hk.2) (.int .u8 ((rd_T27 l0 x48_3).f1))) (fun _ hk => hk.2) (.int .u8 ((rd_T27 l0 x48_3).f2))) (fun _ hk => hk.2) (.int .u8 ((rd_T27 l0 x48_3).f3))) (fun _ hk => hk.2) (.slice A150_4 ((rd_T27 l0 x48_3).f4).length c150_4)) (fun _ hk => hk.2) (.int .u8 ((rd_T27 l0 x48_3).f5))) (fun _ hk => hk.2) (.int .u8 ((rd_T27 l0 x48_3).f6))) (fun _ hk => ⟨hk.1.1.1, ⟨hk.1.1.2, hk.1.2⟩⟩)⟩
                                      have n4_ : Aside0 ((((((((w39.setCell ⟨gb151, 0, none⟩ (.int .i64 ((rd_T27 l0 x48_3).f0))).setCell ⟨gb151, 1, none⟩ (.int .u8 ((rd_T27 l0 x48_3).f1))).setCell ⟨gb151, 2, none⟩ (.int .u8 ((rd_T27 l0 x48_3).f2))).setCell ⟨gb151, 3, none⟩ (.int .u8 ((rd_T27 l0 x48_3).f3))).setCell ⟨gb151, 4, none⟩ (.slice A150_4 ((rd_T27 l0 x48_3).f4).length c150_4)).setCell ⟨gb151, 5, none⟩ (.int .u8 ((rd_T27 l0 x48_3).f5))).setCell ⟨gb151, 6, none⟩ (.int .u8 ((rd_T27 l0 x48_3).f6))).heap[gb151]? = some (.cells #[.int .i64 ((rd_T27 l0 x48_3).f0), .int .u8 ((rd_T27 l0 x48_3).f1), .int .u8 ((rd_T27 l0 x48_3).f2), .int .u8 ((rd_T27 l0 x48_3).f3), .slice A150_4 ((rd_T27 l0 x48_3).f4).length c150_4, .int .u8 ((rd_T27 l0 x48_3).f5), .int .u8 ((rd_T27 l0 x48_3).f6)] 27 (0, 0))) := ⟨by (with_reducible repeat (first | refine blk_drewN ?_ _ | refine blk_drew ?_ | refine blk_alloc ?_ _)); refine blk_put (cs := #[.int .i64 ((rd_T27 l0 x48_3).f0), .int .u8 ((rd_T27 l0 x48_3).f1), .int .u8 ((rd_T27 l0 x48_3).f2), .int .u8 ((rd_T27 l0 x48_3).f3), .slice A150_4 ((rd_T27 l0 x48_3).f4).length c150_4, .int .u8 ((rd_T27 l0 x48_3).f5), .int .u8 0]) ?_ 6 _ rfl; (with_reducible repeat (first | refine blk_drewN ?_ _ | refine blk_drew ?_ | refine blk_alloc ?_ _)); refine blk_put (cs := #[.int .i64 ((rd_T27 l0 x48_3).f0), .int .u8 ((rd_T27 l0 x48_3).f1), .int .u8 ((rd_T27 l0 x48_3).f2), .int .u8 ((rd_T27 l0 x48_3).f3), .slice A150_4 ((rd_T27 l0 x48_3).f4).length c150_4, .int .u8 0, .int .u8 0]) ?_ 5 _ rfl; (with_reducible repeat (first | refine blk_drewN ?_ _ | refine blk_drew ?_ | refine blk_alloc ?_ _)); refine blk_put (cs := #[.int .i64 ((rd_T27 l0 x48_3).f0), .int .u8 ((rd_T27 l0 x48_3).f1), .int .u8 ((rd_T27 l0 x48_3).f2), .int .u8 ((rd_T27 l0 x48_3).f3), .slice none 0 0, .int .u8 0, .int .u8 0]) ?_ 4 _ rfl; (with_reducible repeat (first | refine blk_drewN ?_ _ | refine blk_drew ?_ | refine blk_alloc ?_ _)); refine blk_put (cs := #[.int .i64 ((rd_T27 l0 x48_3).f0), .int .u8 ((rd_T27 l0 x48_3).f1), .int .u8 ((rd_T27 l0 x48_3).f2), .int .u8 0, .slice none 0 0, .int .u8 0, .int .u8 0]) ?_ 3 _ rfl; (with_reducible repeat (first | refine blk_drewN ?_ _ | refine blk_drew ?_ | refine blk_alloc ?_ _)); refine blk_put (cs := #[.int .i64 ((rd_T27 l0 x48_3).f0), .int .u8 ((rd_T27 l0 x48_3).f1), .int .u8 0, .int .u8 0, .slice none 0 0, .int .u8 0, .int .u8 0]) ?_ 2 _ rfl; (with_reducible repeat (first | refine blk_drewN ?_ _ | refine blk_drew ?_ | refine blk_alloc ?_ _)); refine blk_put (cs := #[.int .i64 ((rd_T27 l0 x48_3).f0), .int .u8 0, .int .u8 0, .int .u8 0, .slice none 0 0, .int .u8 0, .int .u8 0]) ?_ 1 _ rfl; (with_reducible repeat (first | refine blk_drewN ?_ _ | refine blk_drew ?_ | refine blk_alloc ?_ _)); refine blk_put (cs := #[.int .i64 0, .int .u8 0, .int .u8 0, .int .u8 0, .slice none 0 0, .int .u8 0, .int .u8 0]) ?_ 0 _ rfl; (with_reducible repeat (first | refine blk_drewN ?_ _ | refine blk_drew ?_ | refine blk_alloc ?_ _)); exact BK151.out⟩
                                      have n5_ : Aside0 (Below w.heap.size w (((((((w39.setCell ⟨gb151, 0, none⟩ (.int .i64 ((rd_T27 l0 x48_3).f0))).setCell ⟨gb151, 1, none⟩ (.int .u8 ((rd_T27 l0 x48_3).f1))).setCell ⟨gb151, 2, none⟩ (.int .u8 ((rd_T27 l0 x48_3).f2))).setCell ⟨gb151, 3, none⟩ (.int .u8 ((rd_T27 l0 x48_3).f3))).setCell ⟨gb151, 4, none⟩ (.slice A150_4 ((rd_T27 l0 x48_3).f4).length c150_4)).setCell ⟨gb151, 5, none⟩ (.int .u8 ((rd_T27 l0 x48_3).f5))).setCell ⟨gb151, 6, none⟩ (.int .u8 ((rd_T27 l0 x48_3).f6)))) := ⟨by repeat (first | (with_reducible first | exact HB.out | apply below_alloc | apply Go.Proofs.Ytnjbobboookfmaa.Ext.below_bytes | apply pw_below_drewN | apply below_drew1 | refine below_set ?_ GE151.out) | exact HB.out)⟩
                                      (try clear HO_0)
                                      (try clear HO_7)
                                      (try clear HO_46)
                                      (try clear HL150_4)
                                      (try clear BK151)
                                      (try clear HB)
                                      generalize (((((((w39.setCell ⟨gb151, 0, none⟩ (.int .i64 ((rd_T27 l0 x48_3).f0))).setCell ⟨gb151, 1, none⟩ (.int .u8 ((rd_T27 l0 x48_3).f1))).setCell ⟨gb151, 2, none⟩ (.int .u8 ((rd_T27 l0 x48_3).f2))).setCell ⟨gb151, 3, none⟩ (.int .u8 ((rd_T27 l0 x48_3).f3))).setCell ⟨gb151, 4, none⟩ (.slice A150_4 ((rd_T27 l0 x48_3).f4).length c150_4)).setCell ⟨gb151, 5, none⟩ (.int .u8 ((rd_T27 l0 x48_3).f5))).setCell ⟨gb151, 6, none⟩ (.int .u8 ((rd_T27 l0 x48_3).f6))) = w41 at n0_ n1_ n2_ n3_ n4_ n5_ ⊢
                                      have HO_0 := n0_
                                      have HO_7 := n1_
                                      have HO_46 := n2_
                                      have HL150_4 := n3_
                                      have BK151 := n4_
                                      have HB := n5_
                                      clear n0_ n1_ n2_ n3_ n4_ n5_
                                      have n0_ := Aside0.mk (Kd.V_drew HO_0.out)
                                      have n1_ := Aside0.mk (Kd.N_drew HO_7.out)
                                      have n2_ := Aside0.mk (Kd.V_drew HO_46.out)
                                      have n3_ := Aside0.mk (Kd.V_drew HL150_4.out)
                                      have n4_ := Aside0.mk (blk_drew BK151.out)
                                      have n5_ := Aside0.mk (below_drew1 HB.out)
                                      clear HO_0
                                      clear HO_7
                                      clear HO_46
                                      clear HL150_4
                                      clear BK151
                                      clear HB
                                      have HO_0 := n0_
                                      have HO_7 := n1_
                                      have HO_46 := n2_
                                      have HL150_4 := n3_
                                      have BK151 := n4_
                                      have HB := n5_
                                      clear n0_ n1_ n2_ n3_ n4_ n5_
                                      refine start_ (n := 20) (S := fun w' => w'.cell? ⟨gb151, 0, none⟩ = some (.int .i64 ((rd_T27 l0 x48_3).f0)) ∧ w'.cell? ⟨gb151, 1, none⟩ = some (.int .u8 ((rd_T27 l0 x48_3).f1)) ∧ w'.cell? ⟨gb151, 2, none⟩ = some (.int .u8 ((rd_T27 l0 x48_3).f2)) ∧ w'.cell? ⟨gb151, 3, none⟩ = some (.int .u8 ((rd_T27 l0 x48_3).f3)) ∧ w'.cell? ⟨gb151, 4, none⟩ = some (.slice A150_4 ((rd_T27 l0 x48_3).f4).length c150_4) ∧ w'.cell? ⟨gb151, 5, none⟩ = some (.int .u8 ((rd_T27 l0 x48_3).f5)) ∧ w'.cell? ⟨gb151, 6, none⟩ = some (.int .u8 ((rd_T27 l0 x48_3).f6))) (ds := []) #[false, false, false, false, false, false, false, false, false, false, false, false, false, false, false, false, false, false, false, false] (by kernel_rfl) rfl rfl ⟨(blk_cell BK151.out 0).trans rfl, (blk_cell BK151.out 1).trans rfl, (blk_cell BK151.out 2).trans rfl, (blk_cell BK151.out 3).trans rfl, (blk_cell BK151.out 4).trans rfl, (blk_cell BK151.out 5).trans rfl, (blk_cell BK151.out 6).trans rfl⟩ (fun hHeld => ?_); refine with_tabW laws_FnTableSteps.tab11 laws_FnTableSteps.bits11 (fun HT_ HW_ => ?_)
                                      generalize w41.drew = w42 at HO_0 HO_7 HO_46 HL150_4 BK151 HB hHeld ⊢
                                      refine pure_ (i := 0) (N := some 81) (v := ?_) (a' := ?_) #[true, false, false, false, false, false, false, false, false, false, false, false, false, false, false, false, false, false, false, false] rfl rfl (any_of HT_.out (by kernel_rfl)) (fun _ _ _ h => h) (Or.inl ⟨by rfl, ?_⟩) ?_ ?_
                                      rotate_left
                                      · intro w'
                                        go_simp
                                        with_reducible rfl
                                      rotate_left
                                      · simp only [Act.put, List.setIfInBounds_toArray, List.set_cons_zero, List.set_cons_succ, i64_w, i32_w]
                                        rfl
                                      refine pure_ (i := 1) (N := some 82) (v := ?_) (a' := ?_) #[true, true, false, false, false, false, false, false, false, false, false, false, false, false, false, false, false, false, false, false] rfl rfl (any_of HT_.out (by kernel_rfl)) (fun _ _ _ h => h) (Or.inl ⟨by rfl, ?_⟩) ?_ ?_
                                      rotate_left
                                      · intro w'
                                        go_simp
                                        with_reducible rfl
                                      rotate_left
                                      · simp only [Act.put, List.setIfInBounds_toArray, List.set_cons_zero, List.set_cons_succ, i64_w, i32_w]
                                        rfl
                                      refine pure_ (i := 3) (N := some 84) (v := ?_) (a' := ?_) #[true, true, false, true, false, false, false, false, false, false, false, false, false, false, false, false, false, false, false, false] rfl rfl (any_of HT_.out (by kernel_rfl)) (fun _ _ _ h => h) (Or.inl ⟨by rfl, ?_⟩) ?_ ?_
                                      rotate_left
                                      · intro w'
                                        go_simp
                                        with_reducible rfl
                                      rotate_left
                                      · simp only [Act.put, List.setIfInBounds_toArray, List.set_cons_zero, List.set_cons_succ, i64_w, i32_w]
                                        rfl
                                      refine pure_ (i := 5) (N := some 86) (v := ?_) (a' := ?_) #[true, true, false, true, false, true, false, false, false, false, false, false, false, false, false, false, false, false, false, false] rfl rfl (any_of HT_.out (by kernel_rfl)) (fun _ _ _ h => h) (Or.inl ⟨by rfl, ?_⟩) ?_ ?_
                                      rotate_left
                                      · intro w'
                                        go_simp
                                        with_reducible rfl
                                      rotate_left
                                      · simp only [Act.put, List.setIfInBounds_toArray, List.set_cons_zero, List.set_cons_succ, i64_w, i32_w]
                                        rfl
                                      refine pure_ (i := 7) (N := some 88) (v := ?_) (a' := ?_) #[true, true, false, true, false, true, false, true, false, false, false, false, false, false, false, false, false, false, false, false] rfl rfl (any_of HT_.out (by kernel_rfl)) (fun _ _ _ h => h) (Or.inl ⟨by rfl, ?_⟩) ?_ ?_
                                      rotate_left
                                      · intro w'
                                        go_simp
                                        with_reducible rfl
                                      rotate_left
                                      · simp only [Act.put, List.setIfInBounds_toArray, List.set_cons_zero, List.set_cons_succ, i64_w, i32_w]
                                        rfl
                                      refine pure_ (i := 9) (N := some 90) (v := ?_) (a' := ?_) #[true, true, false, true, false, true, false, true, false, true, false, false, false, false, false, false, false, false, false, false] rfl rfl (any_of HT_.out (by kernel_rfl)) (fun _ _ _ h => h) (Or.inl ⟨by rfl, ?_⟩) ?_ ?_
                                      rotate_left
                                      · intro w'
                                        go_simp
                                        with_reducible rfl
                                      rotate_left
                                      · simp only [Act.put, List.setIfInBounds_toArray, List.set_cons_zero, List.set_cons_succ, i64_w, i32_w]
                                        rfl
                                      refine pure_ (i := 11) (N := some 92) (v := ?_) (a' := ?_) #[true, true, false, true, false, true, false, true, false, true, false, true, false, false, false, false, false, false, false, false] rfl rfl (any_of HT_.out (by kernel_rfl)) (fun _ _ _ h => h) (Or.inl ⟨by rfl, ?_⟩) ?_ ?_
                                      rotate_left
                                      · intro w'
                                        go_simp
                                        with_reducible rfl
                                      rotate_left
                                      · simp only [Act.put, List.setIfInBounds_toArray, List.set_cons_zero, List.set_cons_succ, i64_w, i32_w]
                                        rfl
                                      refine pure_ (i := 13) (N := some 94) (v := ?_) (a' := ?_) #[true, true, false, true, false, true, false, true, false, true, false, true, false, true, false, false, false, false, false, false] rfl rfl (any_of HT_.out (by kernel_rfl)) (fun _ _ _ h => h) (Or.inl ⟨by rfl, ?_⟩) ?_ ?_
                                      rotate_left
                                      · intro w'
                                        go_simp
                                        with_reducible rfl
                                      rotate_left
                                      · simp only [Act.put, List.setIfInBounds_toArray, List.set_cons_zero, List.set_cons_succ, i64_w, i32_w]
                                        rfl
                                      refine take_ (i := 2) (N := some 83) (v := ?_) (a' := ?_) #[true, true, true, true, false, true, false, true, false, true, false, true, false, true, false, false, false, false, false, false] rfl rfl (take_ofW HT_.out HW_.out (by kernel_rfl)) (fun _ _ _ h => h) (Or.inl ⟨by rfl, ?_⟩) hHeld ?_ ?_
                                      rotate_left
                                      · rintro w' ⟨s0, s1, s2, s3, s4, s5, s6⟩
                                        go_simp
                                        with_reducible rfl
                                      rotate_left
                                      · simp only [Act.put, List.setIfInBounds_toArray, List.set_cons_zero, List.set_cons_succ, i64_w, i32_w]
                                        rfl
                                      refine take_ (i := 4) (N := some 85) (v := ?_) (a' := ?_) #[true, true, true, true, true, true, false, true, false, true, false, true, false, true, false, false, false, false, false, false] rfl rfl (take_ofW HT_.out HW_.out (by kernel_rfl)) (fun _ _ _ h => h) (Or.inl ⟨by rfl, ?_⟩) hHeld ?_ ?_
                                      rotate_left
                                      · rintro w' ⟨s0, s1, s2, s3, s4, s5, s6⟩
                                        go_simp
                                        with_reducible rfl
                                      rotate_left
                                      · simp only [Act.put, List.setIfInBounds_toArray, List.set_cons_zero, List.set_cons_succ, i64_w, i32_w]
                                        rfl
                                      refine take_ (i := 6) (N := some 87) (v := ?_) (a' := ?_) #[true, true, true, true, true, true, true, true, false, true, false, true, false, true, false, false, false, false, false, false] rfl rfl (take_ofW HT_.out HW_.out (by kernel_rfl)) (fun _ _ _ h => h) (Or.inl ⟨by rfl, ?_⟩) hHeld ?_ ?_
                                      rotate_left
                                      · rintro w' ⟨s0, s1, s2, s3, s4, s5, s6⟩
                                        go_simp
                                        with_reducible rfl
                                      rotate_left
                                      · simp only [Act.put, List.setIfInBounds_toArray, List.set_cons_zero, List.set_cons_succ, i64_w, i32_w]
                                        rfl
                                      refine take_ (i := 8) (N := some 89) (v := ?_) (a' := ?_) #[true, true, true, true, true, true, true, true, true, true, false, true, false, true, false, false, false, false, false, false] rfl rfl (take_ofW HT_.out HW_.out (by kernel_rfl)) (fun _ _ _ h => h) (Or.inl ⟨by rfl, ?_⟩) hHeld ?_ ?_
                                      rotate_left
                                      · rintro w' ⟨s0, s1, s2, s3, s4, s5, s6⟩
                                        go_simp
                                        with_reducible rfl
                                      rotate_left
                                      · simp only [Act.put, List.setIfInBounds_toArray, List.set_cons_zero, List.set_cons_succ, i64_w, i32_w]
                                        rfl
                                      refine take_ (i := 10) (N := some 91) (v := ?_) (a' := ?_) #[true, true, true, true, true, true, true, true, true, true, true, true, false, true, false, false, false, false, false, false] rfl rfl (take_ofW HT_.out HW_.out (by kernel_rfl)) (fun _ _ _ h => h) (Or.inl ⟨by rfl, ?_⟩) hHeld ?_ ?_
                                      rotate_left
                                      · rintro w' ⟨s0, s1, s2, s3, s4, s5, s6⟩
                                        go_simp
                                        with_reducible rfl
                                      rotate_left
                                      · simp only [Act.put, List.setIfInBounds_toArray, List.set_cons_zero, List.set_cons_succ, i64_w, i32_w]
                                        rfl
                                      refine take_ (i := 12) (N := some 93) (v := ?_) (a' := ?_) #[true, true, true, true, true, true, true, true, true, true, true, true, true, true, false, false, false, false, false, false] rfl rfl (take_ofW HT_.out HW_.out (by kernel_rfl)) (fun _ _ _ h => h) (Or.inl ⟨by rfl, ?_⟩) hHeld ?_ ?_
                                      rotate_left
                                      · rintro w' ⟨s0, s1, s2, s3, s4, s5, s6⟩
                                        go_simp
                                        with_reducible rfl
                                      rotate_left
                                      · simp only [Act.put, List.setIfInBounds_toArray, List.set_cons_zero, List.set_cons_succ, i64_w, i32_w]
                                        rfl
                                      refine take_ (i := 14) (N := some 95) (v := ?_) (a' := ?_) #[true, true, true, true, true, true, true, true, true, true, true, true, true, true, true, false, false, false, false, false] rfl rfl (take_ofW HT_.out HW_.out (by kernel_rfl)) (fun _ _ _ h => h) (Or.inl ⟨by rfl, ?_⟩) hHeld ?_ ?_
                                      rotate_left
                                      · rintro w' ⟨s0, s1, s2, s3, s4, s5, s6⟩
                                        go_simp
                                        with_reducible rfl
                                      rotate_left
                                      · simp only [Act.put, List.setIfInBounds_toArray, List.set_cons_zero, List.set_cons_succ, i64_w, i32_w]
                                        rfl
                                      refine one_ (i := 15) (N := some 96) #[true, true, true, true, true, true, true, true, true, true, true, true, true, true, true, true, false, false, false, false] rfl rfl (one_of HT_.out (by kernel_rfl)) (by decide) (fun K hK => ?_)
                                      refine goes_ Try.func6 (by kernel_rfl) rfl #[.slice A150_4 ((rd_T27 l0 x48_3).f4).length c150_4] (by rfl) rfl rfl (by (try simp only [List.map_toArray, List.map_cons, List.map_nil]); first | done | rfl | (simp only [List.length_drop, List.length_take]; rfl) | (simp [Act.eval, *]; done) | (simp [Act.eval, *]; unfold wrap64; omega)) ?_
                                      with_reducible refine (bytes_Clone.calls _ _ ((rd_T27 l0 x48_3).f4) t152 _ ?side1 ?side2 A37.out).mono ?_
                                      (case side1 => repeat (first | exact ((Kd.V_reads' (by (with_reducible repeat (first | apply Kd.V_alloc | apply Go.Proofs.Ytnjbobboookfmaa.Ext.R_bytes | apply Kd.V_drewN | apply Kd.V_drew)); exact HL150_4.out)).2.2) | (with_reducible refine Kd.C_alloc ?_ _) | (with_reducible refine Kd.C_drewN ?_ _) | (with_reducible refine Kd.C_drew ?_)))
                                      (case side2 => exact HC150_4.out)
                                      rintro e w43 ⟨v153, rfl, ho0, hb⟩
                                      refine ⟨_, rfl, ?_⟩
                                      have n0_ := Aside0.mk (Kd.V_elder' (by (with_reducible repeat (first | apply Kd.V_alloc | apply Go.Proofs.Ytnjbobboookfmaa.Ext.R_bytes | apply Kd.V_drewN | apply Kd.V_drew)); exact HO_0.out) (Kd.R_base ho0) hb)
                                      have n1_ := Aside0.mk (Kd.N_elder' (by (with_reducible repeat (first | apply Kd.N_alloc | apply Go.Proofs.Ytnjbobboookfmaa.Ext.R_bytes | apply Kd.N_drewN | apply Kd.N_drew)); exact HO_7.out) (Kd.R_base ho0) hb)
                                      have n2_ := Aside0.mk (Kd.V_elder' (by (with_reducible repeat (first | apply Kd.V_alloc | apply Go.Proofs.Ytnjbobboookfmaa.Ext.R_bytes | apply Kd.V_drewN | apply Kd.V_drew)); exact HO_46.out) (Kd.R_base ho0) hb)
                                      have n3_ := Aside0.mk (Kd.V_elder' (by (with_reducible repeat (first | apply Kd.V_alloc | apply Go.Proofs.Ytnjbobboookfmaa.Ext.R_bytes | apply Kd.V_drewN | apply Kd.V_drew)); exact HL150_4.out) (Kd.R_base ho0) hb)
                                      have n4_ := Aside0.mk (Kd.R_lower (Kd.R_newM (M := fun k_ => (w.heap.size ≤ k_)) ho0 (below_size (by repeat (first | (with_reducible first | exact HB.out | apply below_alloc | apply Go.Proofs.Ytnjbobboookfmaa.Ext.below_bytes | apply pw_below_drewN | apply below_drew1 | refine below_set ?_ GE151.out) | exact HB.out))) (fun k_ h_ => h_)) (below_size (by repeat (first | (with_reducible first | exact HB.out | apply below_alloc | apply Go.Proofs.Ytnjbobboookfmaa.Ext.below_bytes | apply pw_below_drewN | apply below_drew1 | refine below_set ?_ GE151.out) | exact HB.out))))
                                      have n5_ := Aside0.mk (blk_below (g := gb151) (o := .cells #[.int .i64 ((rd_T27 l0 x48_3).f0), .int .u8 ((rd_T27 l0 x48_3).f1), .int .u8 ((rd_T27 l0 x48_3).f2), .int .u8 ((rd_T27 l0 x48_3).f3), .slice A150_4 ((rd_T27 l0 x48_3).f4).length c150_4, .int .u8 ((rd_T27 l0 x48_3).f5), .int .u8 ((rd_T27 l0 x48_3).f6)] 27 (0, 0)) (by (with_reducible repeat (first | refine blk_drewN ?_ _ | refine blk_drew ?_ | refine blk_alloc ?_ _)); exact BK151.out) hb)
                                      have n6_ := Aside0.mk (below_step (by repeat (first | (with_reducible first | exact HB.out | apply below_alloc | apply Go.Proofs.Ytnjbobboookfmaa.Ext.below_bytes | apply pw_below_drewN | apply below_drew1 | refine below_set ?_ GE151.out) | exact HB.out)) hb)
                                      clear HO_0
                                      clear HO_7
                                      clear HO_46
                                      clear HL150_4
                                      clear BK151
                                      clear HB
                                      have HO_0 := n0_
                                      have HO_7 := n1_
                                      have HO_46 := n2_
                                      have HL150_4 := n3_
                                      have HO154 := n4_
                                      have BK151 := n5_
                                      have HB := n6_
                                      clear n0_ n1_ n2_ n3_ n4_ n5_ n6_
                                      (try clear hb)
                                      (try clear hb2)
                                      (try clear hk)
                                      (try clear hi)
                                      (try clear ho0)
                                      obtain ⟨Ao44, co44, eo44⟩ := Kd.R_slice HO154.out
                                      (first | subst eo44 | (injection eo44 with f1_ f2_ f3_; have f4_ := f1_.symm; have f5_ := f3_.symm; clear f1_ f2_ f3_; subst f4_; subst f5_))
                                      refine hK.out _ _ ⟨(blk_cell BK151.out 0).trans rfl, (blk_cell BK151.out 1).trans rfl, (blk_cell BK151.out 2).trans rfl, (blk_cell BK151.out 3).trans rfl, (blk_cell BK151.out 4).trans rfl, (blk_cell BK151.out 5).trans rfl, (blk_cell BK151.out 6).trans rfl⟩ (fun hHeld => ?_)
                                      clear hK K
                                      refine norm_ (a' := ?_) ?_ ?_
                                      rotate_left
                                      · show Act.put _ (some 96) _ = _
                                        simp only [Act.put, List.setIfInBounds_toArray, List.set_cons_zero, List.set_cons_succ, i64_w, i32_w]
                                        rfl
                                      refine pure_ (i := 16) (N := some 97) (v := ?_) (a' := ?_) #[true, true, true, true, true, true, true, true, true, true, true, true, true, true, true, true, true, false, false, false] rfl rfl (any_of HT_.out (by kernel_rfl)) (fun _ _ _ h => h) (Or.inl ⟨by rfl, ?_⟩) ?_ ?_
                                      rotate_left
                                      · intro w'
                                        go_simp
                                        with_reducible rfl
                                      rotate_left
                                      · simp only [Act.put, List.setIfInBounds_toArray, List.set_cons_zero, List.set_cons_succ, i64_w, i32_w]
                                        rfl
                                      refine one_ (i := 17) (N := some 98) #[true, true, true, true, true, true, true, true, true, true, true, true, true, true, true, true, true, true, false, false] rfl rfl (one_of HT_.out (by kernel_rfl)) (by decide) (fun K hK => ?_)
                                      refine value_ (w1 := ?_) (v := ?_) (by rfl) rfl ?_ ?_
                                      rotate_left 2
                                      · go_simp
                                        constructor
                                        · rfl
                                        · rfl
                                      refine hK.out _ _ ⟨(blk_cell (blk_alloc BK151.out _) 0).trans rfl, (blk_cell (blk_alloc BK151.out _) 1).trans rfl, (blk_cell (blk_alloc BK151.out _) 2).trans rfl, (blk_cell (blk_alloc BK151.out _) 3).trans rfl, (blk_cell (blk_alloc BK151.out _) 4).trans rfl, (blk_cell (blk_alloc BK151.out _) 5).trans rfl, (blk_cell (blk_alloc BK151.out _) 6).trans rfl⟩ (fun hHeld => ?_)
                                      clear hK K
                                      refine norm_ (a' := ?_) ?_ ?_
                                      rotate_left
                                      · show Act.put _ (some 98) _ = _
                                        simp only [Act.put, List.setIfInBounds_toArray, List.set_cons_zero, List.set_cons_succ, i64_w, i32_w]
                                        rfl
                                      refine one_ (i := 18) (N := some 99) #[true, true, true, true, true, true, true, true, true, true, true, true, true, true, true, true, true, true, true, false] rfl rfl (one_of HT_.out (by kernel_rfl)) (by decide) (fun K hK => ?_)
                                      refine Kd.N_append_step k30 (w0 := w) w.heap.size (by rfl) (.tmp 81) (.tmp 98) 25 30 (.agg #[(.int .i64 0), (.int .u8 0), (.int .u8 0), (.int .u8 0), (.int .u8 0), (.int .u8 0), (.slice none 0 0)]) 40 rfl Try.underlying25 info30 rfl (by decide) (by omega) u7 x7_3 (⟨(rd_T27 l0 x48_3).f0, (rd_T27 l0 x48_3).f2, (rd_T27 l0 x48_3).f3, (rd_T27 l0 x48_3).f1, (rd_T27 l0 x48_3).f5, (rd_T27 l0 x48_3).f6, t152⟩ : S30) [.int .i64 ((rd_T27 l0 x48_3).f0), .int .u8 ((rd_T27 l0 x48_3).f2), .int .u8 ((rd_T27 l0 x48_3).f3), .int .u8 ((rd_T27 l0 x48_3).f1), .int .u8 ((rd_T27 l0 x48_3).f5), .int .u8 ((rd_T27 l0 x48_3).f6), .slice Ao44 t152.length co44] (fun k_ => (P0_ k_ ∨ w.heap.size ≤ k_) ∧ k_ ≠ gb151) (fun k_ => ((fun k_ => (P0_ k_ ∨ w.heap.size ≤ k_) ∧ k_ ≠ gb151)) k_ ∧ some k_ ≠ (u7 : Value).ownBlock) rfl rfl ?aP (fun _ hk => hk) ?aF ?aO ?aB ?aS ?aL ?_
                                      (case aP => exact (k30_mkF _ _ (⟨(rd_T27 l0 x48_3).f0, (rd_T27 l0 x48_3).f2, (rd_T27 l0 x48_3).f3, (rd_T27 l0 x48_3).f1, (rd_T27 l0 x48_3).f5, (rd_T27 l0 x48_3).f6, t152⟩ : S30) (Kd.R_reads' (Kd.R_mono (ok' := (fun k_ => ((fun k_ => (P0_ k_ ∨ w.heap.size ≤ k_) ∧ k_ ≠ gb151)) k_ ∧ some k_ ≠ (u7 : Value).ownBlock)) (Kd.R_types (Kd.R_apart' (HO154.out) (Kd.N_typed HO_7.out) (by decide)) BK151.out (by decide)) (fun k_ hk => ⟨⟨(.inr (hk.1.1.1)), hk.2⟩, hk.1.2⟩))).2.1 (Kd.R_F (Kd.R_mono (ok' := (fun k_ => ((fun k_ => (P0_ k_ ∨ w.heap.size ≤ k_) ∧ k_ ≠ gb151)) k_ ∧ some k_ ≠ (u7 : Value).ownBlock)) (Kd.R_types (Kd.R_apart' (HO154.out) (Kd.N_typed HO_7.out) (by decide)) BK151.out (by decide)) (fun k_ hk => ⟨⟨(.inr (hk.1.1.1)), hk.2⟩, hk.1.2⟩)))))
                                      (case aB => exact (by repeat (first | (with_reducible first | exact HB.out | apply below_alloc | apply Go.Proofs.Ytnjbobboookfmaa.Ext.below_bytes | apply pw_below_drewN | apply below_drew1 | refine below_set ?_ GE151.out) | exact HB.out)))
                                      (case aF => exact (fun k_ hk => ⟨(.inr (Nat.le_trans (below_size (by repeat (first | (with_reducible first | exact HB.out | apply below_alloc | apply Go.Proofs.Ytnjbobboookfmaa.Ext.below_bytes | apply pw_below_drewN | apply below_drew1 | refine below_set ?_ GE151.out) | exact HB.out))) hk)), Kd.freshB (g := gb151) (o := .cells #[.int .i64 ((rd_T27 l0 x48_3).f0), .int .u8 ((rd_T27 l0 x48_3).f1), .int .u8 ((rd_T27 l0 x48_3).f2), .int .u8 ((rd_T27 l0 x48_3).f3), .slice A150_4 ((rd_T27 l0 x48_3).f4).length c150_4, .int .u8 ((rd_T27 l0 x48_3).f5), .int .u8 ((rd_T27 l0 x48_3).f6)] 27 (0, 0)) (by (with_reducible repeat (first | refine blk_drewN ?_ _ | refine blk_drew ?_ | refine blk_alloc ?_ _)); exact BK151.out) k_ hk⟩))
                                      (case aO => exact (by (with_reducible repeat (first | apply Kd.N_alloc | apply Go.Proofs.Ytnjbobboookfmaa.Ext.R_bytes | apply Kd.N_drewN | apply Kd.N_drew)); exact Kd.N_mono HO_7.out (fun _ hk => ⟨hk.1.1, hk.1.2⟩)))
                                      (case aS => exact (below_size (by repeat (first | (with_reducible first | exact HB.out | apply below_alloc | apply Go.Proofs.Ytnjbobboookfmaa.Ext.below_bytes | apply pw_below_drewN | apply below_drew1 | refine below_set ?_ GE151.out) | exact HB.out))))
                                      (case aL => have := LMc38.out; omega)
                                      intro v156 w45 ho hb hg hat
                                      rw [← Ny155.out] at ho
                                      have n0_ := Aside0.mk (Kd.V_afterv (ok := (fun k_ => (P0_ k_ ∨ w.heap.size ≤ k_) ∧ some k_ ≠ (.slice Ao44 t152.length co44 : Value).ownBlock ∧ k_ ≠ gb151)) (by (with_reducible repeat (first | apply Kd.V_alloc | apply Go.Proofs.Ytnjbobboookfmaa.Ext.R_bytes | apply Kd.V_drewN | apply Kd.V_drew)); exact Kd.V_mono HO_0.out (fun _ hk => ⟨⟨hk.1.1, ⟨hk.2, hk.1.2.2⟩⟩, hk.1.2.1⟩)) hg hat)
                                      have n1_ := Aside0.mk (Kd.V_afterv (ok := (fun k_ => (P0_ k_ ∨ w.heap.size ≤ k_) ∧ some k_ ≠ (.slice Ao44 t152.length co44 : Value).ownBlock ∧ k_ ≠ gb151)) (by (with_reducible repeat (first | apply Kd.V_alloc | apply Go.Proofs.Ytnjbobboookfmaa.Ext.R_bytes | apply Kd.V_drewN | apply Kd.V_drew)); exact Kd.V_mono HO_46.out (fun _ hk => ⟨⟨hk.1.1, ⟨hk.2, hk.1.2.2⟩⟩, hk.1.2.1⟩)) hg hat)
                                      have n2_ := Aside0.mk (Kd.V_afterv (ok := (fun k_ => (P0_ k_ ∨ w.heap.size ≤ k_) ∧ some k_ ≠ (.slice Ao44 t152.length co44 : Value).ownBlock ∧ k_ ≠ gb151)) (by (with_reducible repeat (first | apply Kd.V_alloc | apply Go.Proofs.Ytnjbobboookfmaa.Ext.R_bytes | apply Kd.V_drewN | apply Kd.V_drew)); exact Kd.V_mono HL150_4.out (fun _ hk => ⟨⟨hk.1.1, ⟨hk.2, hk.1.2.2⟩⟩, hk.1.2.1⟩)) hg hat)
                                      have n3_ := Aside0.mk (blk_grown (g := gb151) (o := .cells #[.int .i64 ((rd_T27 l0 x48_3).f0), .int .u8 ((rd_T27 l0 x48_3).f1), .int .u8 ((rd_T27 l0 x48_3).f2), .int .u8 ((rd_T27 l0 x48_3).f3), .slice A150_4 ((rd_T27 l0 x48_3).f4).length c150_4, .int .u8 ((rd_T27 l0 x48_3).f5), .int .u8 ((rd_T27 l0 x48_3).f6)] 27 (0, 0)) (by (with_reducible repeat (first | refine blk_drewN ?_ _ | refine blk_drew ?_ | refine blk_alloc ?_ _)); exact BK151.out) hg (Kd.N_ne HO_7.out BK151.out (by decide)))
                                      have n4_ := Aside0.mk (hb)
                                      have n5_ := Aside0.mk (ho)
                                      clear HO_0
                                      clear HO_46
                                      clear HL150_4
                                      clear BK151
                                      clear HB
                                      clear HO_7
                                      clear HO154
                                      have HO_0 := n0_
                                      have HO_46 := n1_
                                      have HL150_4 := n2_
                                      have BK151 := n3_
                                      have HB := n4_
                                      have HO157 := n5_
                                      clear n0_ n1_ n2_ n3_ n4_ n5_
                                      clear ho hb hg hat
                                      refine hK.out _ _ ⟨(blk_cell BK151.out 0).trans rfl, (blk_cell BK151.out 1).trans rfl, (blk_cell BK151.out 2).trans rfl, (blk_cell BK151.out 3).trans rfl, (blk_cell BK151.out 4).trans rfl, (blk_cell BK151.out 5).trans rfl, (blk_cell BK151.out 6).trans rfl⟩ (fun hHeld => ?_)
                                      clear hK K
                                      refine norm_ (a' := ?_) ?_ ?_
                                      rotate_left
                                      · show Act.put _ (some 99) _ = _
                                        simp only [Act.put, List.setIfInBounds_toArray, List.set_cons_zero, List.set_cons_succ, i64_w, i32_w]
                                        rfl
                                      refine pure_ (i := 19) (N := some 7) (v := ?_) (a' := ?_) #[true, true, true, true, true, true, true, true, true, true, true, true, true, true, true, true, true, true, true, true] rfl rfl (any_of HT_.out (by kernel_rfl)) (fun _ _ _ h => h) (Or.inl ⟨by rfl, ?_⟩) ?_ ?_
                                      rotate_left
                                      · intro w'
                                        go_simp
                                        with_reducible rfl
                                      rotate_left
                                      · simp only [Act.put, List.setIfInBounds_toArray, List.set_cons_zero, List.set_cons_succ, i64_w, i32_w]
                                        rfl
                                      refine done_ (done_of HT_.out (by kernel_rfl)) ?_
                                      try go_wp2
                                      go_roundg k3
                                      case measure => have := HJ3.out; have := HJ11.out; have := HK3.out; omega
                                      case rel => exact ⟨(y155), (wrap64 (x48_3 + 1)), (by first | rfl | (simp; done) | (simp [*]; done)), H', ⟨by have := HJ3.out; have := HJ11.out; have := HK3.out; omega⟩, ⟨by (with_reducible repeat (first | apply Kd.V_alloc | apply Go.Proofs.Ytnjbobboookfmaa.Ext.R_bytes | apply Kd.V_drewN | apply Kd.V_drew)); exact Kd.V_mono HO_0.out (fun _ hk => ⟨hk.1.1, hk.2⟩)⟩, ⟨by (with_reducible repeat (first | apply Kd.N_alloc | apply Go.Proofs.Ytnjbobboookfmaa.Ext.R_bytes | apply Kd.N_drewN | apply Kd.N_drew)); exact Kd.N_mono HO157.out (fun _ hk => hk.1)⟩, ⟨by (with_reducible repeat (first | apply Kd.V_alloc | apply Go.Proofs.Ytnjbobboookfmaa.Ext.R_bytes | apply Kd.V_drewN | apply Kd.V_drew)); exact Kd.V_mono HO_46.out (fun _ hk => ⟨hk.1.1, hk.2⟩)⟩, ⟨by repeat (first | (with_reducible first | exact HB.out | apply below_alloc | apply Go.Proofs.Ytnjbobboookfmaa.Ext.below_bytes | apply pw_below_drewN | apply below_drew1 | refine below_set ?_ GE151.out) | exact HB.out)⟩⟩
                                    · rw [if_neg c38] at H
                                      exact absurd H (by simp)
                      · rw [if_neg c18] at H
                        exact absurd H (by simp)
                    · rw [if_neg c17] at H
                      exact absurd H (by simp)
                  · rw [if_neg c16] at H
                    have c16b0 : decide (x48_3 < (l0.length : Int)) = false := decide_eq_false c16
                    (try (have c16b90 := c16b0; simp only [hl150_4] at c16b90))
                    clear c16
                    obtain ⟨y158, hy158⟩ : ∃ y_ : List (S32), y_ = (([(⟨1, 65⟩ : S32)] : List (S32))) := ⟨_, rfl⟩
                    replace H : (laws_FnTableSteps.l1 k3 l0 l1 l2 x7_3 y158 (l1.length : Int) 0) = some r := by first | (rw [hy158]; with_reducible exact H) | (have H2_ := (Option.bind_some _ _).symm.trans H; rw [hy158]; with_reducible exact H2_) | (have H2_ := (Option.bind_some _ _).symm.trans H; with_reducible exact H2_) | with_reducible exact H | (rw [hy158]; exact H) | exact H
                    have Ny158 := Aside0.mk hy158
                    clear hy158
                    have H' := Aside0.mk H
                    clear H
                    go_wp2_with (first | ((with_reducible refine gate_dst (N := 102) rfl ?_); (try (refine gate_guard (by rfl) ?_; dsimp only)); refine Kd.R_lit k32 _ 32 ?hg (N := 102) ?hd (xs := ([(⟨1, 65⟩ : S32)] : List (S32))) (inner := [.int .u8 1, .int .u8 65]) (ok := fun _ => True) (okp := fun _ => True) ?hr ?hp (fun _ hk => hk) trivial (Below.refl _ _) (Nat.le_refl _) (by simp) ?_; (case hd => rfl); (case hg => rfl); (case hr => first | (go_simp; done) | (go_simp; rfl)); (case hp => exact (Reps.c2 (show Kd.M k32 _ _ _ (⟨1, 65⟩ : S32) [.int .u8 1, .int .u8 65] from (k32_mkM _ _ _ (⟨1, 65⟩ : S32) )) (Reps.none _ _))); intro v159 w46 ho47 hb hg_ hnew_; clear hg_ hnew_; (first | rw [← Ny158.out] at ho47 | (simp only [Int.reduceToNat] at ho47; rw [← Ny158.out] at ho47)); have n0_ := Aside0.mk (Kd.V_elder' (by (with_reducible repeat (first | apply Kd.V_alloc | apply Go.Proofs.Ytnjbobboookfmaa.Ext.R_bytes | apply Kd.V_drewN | apply Kd.V_drew)); exact HO_0.out) (Kd.R_base ho47) hb); have n1_ := Aside0.mk (Kd.N_elder' (by (with_reducible repeat (first | apply Kd.N_alloc | apply Go.Proofs.Ytnjbobboookfmaa.Ext.R_bytes | apply Kd.N_drewN | apply Kd.N_drew)); exact HO_7.out) (Kd.R_base ho47) hb); have n2_ := Aside0.mk (Kd.V_elder' (by (with_reducible repeat (first | apply Kd.V_alloc | apply Go.Proofs.Ytnjbobboookfmaa.Ext.R_bytes | apply Kd.V_drewN | apply Kd.V_drew)); exact HO_46.out) (Kd.R_base ho47) hb); have n3_ := Aside0.mk (Kd.R_lower (Kd.R_newM (M := fun k_ => (w.heap.size ≤ k_)) ho47 (below_size (by repeat (first | (with_reducible first | exact HB.out | apply below_alloc | apply Go.Proofs.Ytnjbobboookfmaa.Ext.below_bytes | apply pw_below_drewN | apply below_drew1) | exact HB.out))) (fun k_ h_ => h_)) (below_size (by repeat (first | (with_reducible first | exact HB.out | apply below_alloc | apply Go.Proofs.Ytnjbobboookfmaa.Ext.below_bytes | apply pw_below_drewN | apply below_drew1) | exact HB.out)))); have n4_ := Aside0.mk (below_step (by repeat (first | (with_reducible first | exact HB.out | apply below_alloc | apply Go.Proofs.Ytnjbobboookfmaa.Ext.below_bytes | apply pw_below_drewN | apply below_drew1) | exact HB.out)) hb); clear HO_0; clear HO_7; clear HO_46; clear HB; have HO_0 := n0_; have HO_7 := n1_; have HO_46 := n2_; have HO160 := n3_; have HB := n4_; clear n0_ n1_ n2_ n3_ n4_; clear hb ho47))
                    go_loopg [10, 105] k3 (fun kq v10 v105 w' => ∃ (x10_4 : List (S32)) (x105_4 : Int), v105 = .int .i64 x105_4 ∧ Aside0 (laws_FnTableSteps.l1 kq l0 l1 l2 x7_3 x10_4 (l1.length : Int) x105_4 = some r) ∧ Aside0 (kq ≤ k3) ∧ Aside0 (Kd.V k27 27 w' w.heap.size (fun k_ => (P0_ k_ ∨ w.heap.size ≤ k_) ∧ some k_ ≠ (u7 : Value).ownBlock ∧ some k_ ≠ (v10 : Value).ownBlock) (.slice A0 l0.length c0) l0) ∧ Aside0 (Kd.N k30 30 w' w.heap.size (fun k_ => (P0_ k_ ∨ w.heap.size ≤ k_) ∧ some k_ ≠ (v10 : Value).ownBlock) u7 x7_3) ∧ Aside0 (Kd.R k32 32 w' w.heap.size (fun k_ => (w.heap.size ≤ k_)) v10 x10_4) ∧ Aside0 (Below w.heap.size w w'))
                    case atStart => exact ⟨(y158), (0), (by first | rfl | (simp; done) | (simp [*]; done)), H', ⟨Nat.le_refl _⟩, ⟨by (with_reducible repeat (first | apply Kd.V_alloc | apply Go.Proofs.Ytnjbobboookfmaa.Ext.R_bytes | apply Kd.V_drewN | apply Kd.V_drew)); exact Kd.V_mono HO_0.out (fun _ hk => ⟨hk.1.1, ⟨hk.1.2, hk.2⟩⟩)⟩, ⟨by (with_reducible repeat (first | apply Kd.N_alloc | apply Go.Proofs.Ytnjbobboookfmaa.Ext.R_bytes | apply Kd.N_drewN | apply Kd.N_drew)); exact HO_7.out⟩, ⟨by (with_reducible repeat (first | apply Kd.R_alloc | apply Go.Proofs.Ytnjbobboookfmaa.Ext.R_bytes | apply Kd.R_drewN | apply Kd.R_drew)); exact Kd.R_mono HO160.out (fun _ hk => hk.1)⟩, ⟨by repeat (first | (with_reducible first | exact HB.out | apply below_alloc | apply Go.Proofs.Ytnjbobboookfmaa.Ext.below_bytes | apply pw_below_drewN | apply below_drew1) | exact HB.out)⟩⟩
                    case round =>
                      clear H'
                      try clear c1
                      try clear p1
                      try clear q1
                      try clear hx1
                      try clear c2
                      try clear p2
                      try clear c3
                      try clear c5
                      try clear c6
                      try clear p6
                      try clear c7
                      try clear c7b0
                      try clear c7b1
                      try clear c11
                      try clear c13
                      try clear c13b0
                      try clear c13b1
                      try clear c14
                      try clear c14b0
                      try clear c14b1
                      try clear c15
                      try clear p15
                      try clear q15
                      try clear hx15
                      try clear c16
                      try clear c16b0
                      try clear c17
                      try clear c17b0
                      try clear c18
                      try clear c18b0
                      try clear c19
                      try clear c19b0
                      try clear c22
                      try clear c22b0
                      try clear c25
                      try clear c25b0
                      try clear c28
                      try clear c28b0
                      try clear c31
                      try clear c31b0
                      try clear c34
                      try clear c34b0
                      try clear c34b1
                      try clear c38
                      try clear hcz21_0
                      try clear hcz21_1
                      try clear hcz21_2
                      try clear hcz21_3
                      try clear hcz21_4
                      try clear hcz21_5
                      try clear hcz21_6
                      try clear hcz24_0
                      try clear hcz24_1
                      try clear hcz24_2
                      try clear hcz24_3
                      try clear hcz24_4
                      try clear hcz24_5
                      try clear hcz24_6
                      try clear hcz27_0
                      try clear hcz27_1
                      try clear hcz27_2
                      try clear hcz27_3
                      try clear hcz27_4
                      try clear hcz27_5
                      try clear hcz27_6
                      try clear hcz30_0
                      try clear hcz30_1
                      try clear hcz30_2
                      try clear hcz30_3
                      try clear hcz30_4
                      try clear hcz30_5
                      try clear hcz30_6
                      try clear hcz33_0
                      try clear hcz33_1
                      try clear hcz33_2
                      try clear hcz33_3
                      try clear hcz33_4
                      try clear hcz33_5
                      try clear hcz33_6
                      try clear hcz36_0
                      try clear hcz36_1
                      try clear hcz36_2
                      try clear hcz36_3
                      try clear hcz36_4
                      try clear hcz36_5
                      try clear hcz36_6
                      try clear hcz40_0
                      try clear hcz40_1
                      try clear hcz40_2
                      try clear hcz40_3
                      try clear hcz40_4
                      try clear hcz40_5
                      try clear hcz40_6
                      try clear hfz21_0
                      try clear hfz21_1
                      try clear hfz21_2
                      try clear hfz21_3
                      try clear hfz21_4
                      try clear hfz21_5
                      try clear hfz21_6
                      try clear hfz24_0
                      try clear hfz24_1
                      try clear hfz24_2
                      try clear hfz24_3
                      try clear hfz24_4
                      try clear hfz24_5
                      try clear hfz24_6
                      try clear hfz27_0
                      try clear hfz27_1
                      try clear hfz27_2
                      try clear hfz27_3
                      try clear hfz27_4
                      try clear hfz27_5
                      try clear hfz27_6
                      try clear hfz30_0
                      try clear hfz30_1
                      try clear hfz30_2
                      try clear hfz30_3
                      try clear hfz30_4
                      try clear hfz30_5
                      try clear hfz30_6
                      try clear hfz33_0
                      try clear hfz33_1
                      try clear hfz33_2
                      try clear hfz33_3
                      try clear hfz33_4
                      try clear hfz33_5
                      try clear hfz33_6
                      try clear hfz36_0
                      try clear hfz36_1
                      try clear hfz36_2
                      try clear hfz36_3
                      try clear hfz36_4
                      try clear hfz36_5
                      try clear hfz36_6
                      try clear hfz40_0
                      try clear hfz40_1
                      try clear hfz40_2
                      try clear hfz40_3
                      try clear hfz40_4
                      try clear hfz40_5
                      try clear hfz40_6
                      try clear hx150_0
                      try clear hx150_1
                      try clear hx150_2
                      try clear hx150_3
                      try clear hx150_4
                      try clear hx150_5
                      try clear hx150_6
                      try clear p150
                      try clear p2
                      try clear p6
                      try clear q150
                      obtain ⟨x10_4, x105_4, rfl, HA, HK4, HO_0, HO_7, HO_10, HB⟩ := hrel
                      cases gk with
                      | zero => exact absurd HA.out (by simp [laws_FnTableSteps.l1])
                      | succ k4 =>
                        have H := HA.out
                        clear HA
                        simp only [laws_FnTableSteps.l1] at H
                        by_cases c48 : x105_4 < (l1.length : Int)
                        · rw [if_pos c48] at H
                          have c48b0 : decide (x105_4 < (l1.length : Int)) = true := decide_eq_true c48
                          (try (have c48b90 := c48b0; simp only [hl150_4] at c48b90))
                          clear c48
                          by_cases c49 : 0 ≤ x105_4
                          · rw [if_pos c49] at H
                            have c49b0 : decide (0 ≤ x105_4) = true := decide_eq_true c49
                            clear c49
                            by_cases c50 : x105_4 < (l1.length : Int)
                            · rw [if_pos c50] at H
                              have c50b0 : decide (x105_4 < (l1.length : Int)) = true := decide_eq_true c50
                              (try (have c50b90 := c50b0; simp only [hl150_4] at c50b90))
                              clear c50
                              by_cases c51 : x105_4 < (l2.length : Int)
                              · rw [if_pos c51] at H
                                have c51b0 : decide (x105_4 < (l2.length : Int)) = true := decide_eq_true c51
                                (try (have c51b90 := c51b0; simp only [hl150_4] at c51b90))
                                clear c51
                                by_cases c52 : x10_4.length < 70368744177664
                                · rw [if_pos c52] at H
                                  have LMc52 := Aside0.mk c52
                                  clear c52
                                  obtain ⟨y163, hy163⟩ : ∃ y_ : List (S32), y_ = (x10_4 ++ [(⟨Int.tmod (rd l1 x105_4) 16, rd l2 x105_4⟩ : S32)]) := ⟨_, rfl⟩
                                  replace H : (laws_FnTableSteps.l1 k4 l0 l1 l2 x7_3 y163 (l1.length : Int) (wrap64 (x105_4 + 1))) = some r := by first | (rw [hy163]; with_reducible exact H) | (have H2_ := (Option.bind_some _ _).symm.trans H; rw [hy163]; with_reducible exact H2_) | (have H2_ := (Option.bind_some _ _).symm.trans H; with_reducible exact H2_) | with_reducible exact H | (rw [hy163]; exact H) | exact H
                                  have Ny163 := Aside0.mk hy163
                                  clear hy163
                                  have H' := Aside0.mk H
                                  clear H
                                  try go_wp2
                                  have n0_ := Aside0.mk (Kd.V_drew HO_0.out)
                                  have n1_ := Aside0.mk (Kd.N_drew HO_7.out)
                                  have n2_ := Aside0.mk (Kd.R_drew HO_10.out)
                                  have n3_ := Aside0.mk (below_drew1 HB.out)
                                  clear HO_0
                                  clear HO_7
                                  clear HO_10
                                  clear HB
                                  have HO_0 := n0_
                                  have HO_7 := n1_
                                  have HO_10 := n2_
                                  have HB := n3_
                                  clear n0_ n1_ n2_ n3_
                                  have p161 : 0 ≤ (x105_4 : Int) := of_decide_eq_true (by first | (with_reducible assumption) | assumption)
                                  have q161 : x105_4 < (l1.length : Int) := of_decide_eq_true (by first | (with_reducible assumption) | assumption)
                                  obtain ⟨ad161, e161, hx161_0⟩ := Kd.at_int HR1.out x105_4 p161 q161
                                  have hw161_0 := hx161_0
                                  cases e161
                                  replace hx161_0 := (HB.out.cell (World.block_lt_of_cell? w _ hx161_0)).trans hx161_0
                                  replace p161 := eq_true p161
                                  replace q161 := eq_true q161
                                  have p162 : 0 ≤ (x105_4 : Int) := of_decide_eq_true (by first | (with_reducible assumption) | assumption)
                                  have q162 : x105_4 < (l2.length : Int) := of_decide_eq_true (by first | (with_reducible assumption) | assumption)
                                  obtain ⟨ad162, e162, hx162_0⟩ := Kd.at_int HR2.out x105_4 p162 q162
                                  have hw162_0 := hx162_0
                                  cases e162
                                  replace hx162_0 := (HB.out.cell (World.block_lt_of_cell? w _ hx162_0)).trans hx162_0
                                  replace p162 := eq_true p162
                                  replace q162 := eq_true q162
                                  refine start_ (n := 14) (S := fun w' => w'.cell? (ad161.add (x105_4).toNat) = some (.int .u8 (rd l1 x105_4)) ∧ w'.cell? (ad162.add (x105_4).toNat) = some (.int .u8 (rd l2 x105_4))) (ds := []) #[false, false, false, false, false, false, false, false, false, false, false, false, false, false] (by kernel_rfl) rfl rfl ⟨((HB.out.cell (World.block_lt_of_cell? w _ hw161_0)).trans hw161_0), ((HB.out.cell (World.block_lt_of_cell? w _ hw162_0)).trans hw162_0)⟩ (fun hHeld => ?_); refine with_tabW laws_FnTableSteps.tab17 laws_FnTableSteps.bits17 (fun HT_ HW_ => ?_)
                                  generalize wr.drew = w53 at HO_0 HO_7 HO_10 HB hx161_0 hx162_0 hHeld ⊢
                                  refine pure_ (i := 0) (N := some 108) (v := ?_) (a' := ?_) #[true, false, false, false, false, false, false, false, false, false, false, false, false, false] rfl rfl (any_of HT_.out (by kernel_rfl)) (fun _ _ _ h => h) (Or.inl ⟨by rfl, ?_⟩) ?_ ?_
                                  rotate_left
                                  · intro w'
                                    go_simp
                                    with_reducible rfl
                                  rotate_left
                                  · simp only [Act.put, List.setIfInBounds_toArray, List.set_cons_zero, List.set_cons_succ, i64_w, i32_w]
                                    rfl
                                  refine pure_ (i := 1) (N := some 109) (v := ?_) (a' := ?_) #[true, true, false, false, false, false, false, false, false, false, false, false, false, false] rfl rfl (any_of HT_.out (by kernel_rfl)) (fun _ _ _ h => h) (Or.inl ⟨by rfl, ?_⟩) ?_ ?_
                                  rotate_left
                                  · intro w'
                                    go_simp
                                    with_reducible rfl
                                  rotate_left
                                  · simp only [Act.put, List.setIfInBounds_toArray, List.set_cons_zero, List.set_cons_succ, i64_w, i32_w]
                                    rfl
                                  refine pure_ (i := 2) (N := some 110) (v := ?_) (a' := ?_) #[true, true, true, false, false, false, false, false, false, false, false, false, false, false] rfl rfl (any_of HT_.out (by kernel_rfl)) (fun _ _ _ h => h) (Or.inl ⟨by rfl, ?_⟩) ?_ ?_
                                  rotate_left
                                  · intro w'
                                    go_simp
                                    with_reducible rfl
                                  rotate_left
                                  · simp only [Act.put, List.setIfInBounds_toArray, List.set_cons_zero, List.set_cons_succ, i64_w, i32_w]
                                    rfl
                                  refine pure_ (i := 3) (N := some 111) (v := ?_) (a' := ?_) #[true, true, true, true, false, false, false, false, false, false, false, false, false, false] rfl rfl (any_of HT_.out (by kernel_rfl)) (fun _ _ _ h => h) (Or.inl ⟨by rfl, ?_⟩) ?_ ?_
                                  rotate_left
                                  · intro w'
                                    go_simp
                                    with_reducible rfl
                                  rotate_left
                                  · simp only [Act.put, List.setIfInBounds_toArray, List.set_cons_zero, List.set_cons_succ, i64_w, i32_w]
                                    rfl
                                  refine pure_ (i := 6) (N := some 114) (v := ?_) (a' := ?_) #[true, true, true, true, false, false, true, false, false, false, false, false, false, false] rfl rfl (any_of HT_.out (by kernel_rfl)) (fun _ _ _ h => h) (Or.inl ⟨by rfl, ?_⟩) ?_ ?_
                                  rotate_left
                                  · intro w'
                                    go_simp
                                    with_reducible rfl
                                  rotate_left
                                  · simp only [Act.put, List.setIfInBounds_toArray, List.set_cons_zero, List.set_cons_succ, i64_w, i32_w]
                                    rfl
                                  refine pure_ (i := 7) (N := some 115) (v := ?_) (a' := ?_) #[true, true, true, true, false, false, true, true, false, false, false, false, false, false] rfl rfl (any_of HT_.out (by kernel_rfl)) (fun _ _ _ h => h) (Or.inl ⟨by rfl, ?_⟩) ?_ ?_
                                  rotate_left
                                  · intro w'
                                    go_simp
                                    with_reducible rfl
                                  rotate_left
                                  · simp only [Act.put, List.setIfInBounds_toArray, List.set_cons_zero, List.set_cons_succ, i64_w, i32_w]
                                    rfl
                                  refine pure_ (i := 8) (N := some 116) (v := ?_) (a' := ?_) #[true, true, true, true, false, false, true, true, true, false, false, false, false, false] rfl rfl (any_of HT_.out (by kernel_rfl)) (fun _ _ _ h => h) (Or.inl ⟨by rfl, ?_⟩) ?_ ?_
                                  rotate_left
                                  · intro w'
                                    go_simp
                                    with_reducible rfl
                                  rotate_left
                                  · simp only [Act.put, List.setIfInBounds_toArray, List.set_cons_zero, List.set_cons_succ, i64_w, i32_w]
                                    rfl
                                  refine take_ (i := 4) (N := some 112) (v := ?_) (a' := ?_) #[true, true, true, true, true, false, true, true, true, false, false, false, false, false] rfl rfl (take_ofW HT_.out HW_.out (by kernel_rfl)) (fun _ _ _ h => h) (Or.inl ⟨by rfl, ?_⟩) hHeld ?_ ?_
                                  rotate_left
                                  · rintro w' ⟨s0, s1⟩
                                    go_simp
                                    with_reducible rfl
                                  rotate_left
                                  · simp only [Act.put, List.setIfInBounds_toArray, List.set_cons_zero, List.set_cons_succ, i64_w, i32_w]
                                    rfl
                                  refine pure_ (i := 5) (N := some 113) (v := ?_) (a' := ?_) #[true, true, true, true, true, true, true, true, true, false, false, false, false, false] rfl rfl (any_of HT_.out (by kernel_rfl)) (fun _ _ _ h => h) (Or.inl ⟨by rfl, ?_⟩) ?_ ?_
                                  rotate_left
                                  · intro w'
                                    go_simp
                                    with_reducible rfl
                                  rotate_left
                                  · simp only [Act.put, List.setIfInBounds_toArray, List.set_cons_zero, List.set_cons_succ, i64_w, i32_w]
                                    rfl
                                  refine take_ (i := 9) (N := some 117) (v := ?_) (a' := ?_) #[true, true, true, true, true, true, true, true, true, true, false, false, false, false] rfl rfl (take_ofW HT_.out HW_.out (by kernel_rfl)) (fun _ _ _ h => h) (Or.inl ⟨by rfl, ?_⟩) hHeld ?_ ?_
                                  rotate_left
                                  · rintro w' ⟨s0, s1⟩
                                    go_simp
                                    with_reducible rfl
                                  rotate_left
                                  · simp only [Act.put, List.setIfInBounds_toArray, List.set_cons_zero, List.set_cons_succ, i64_w, i32_w]
                                    rfl
                                  refine pure_ (i := 10) (N := some 118) (v := ?_) (a' := ?_) #[true, true, true, true, true, true, true, true, true, true, true, false, false, false] rfl rfl (any_of HT_.out (by kernel_rfl)) (fun _ _ _ h => h) (Or.inl ⟨by rfl, ?_⟩) ?_ ?_
                                  rotate_left
                                  · intro w'
                                    go_simp
                                    with_reducible rfl
                                  rotate_left
                                  · simp only [Act.put, List.setIfInBounds_toArray, List.set_cons_zero, List.set_cons_succ, i64_w, i32_w]
                                    rfl
                                  refine one_ (i := 11) (N := some 119) #[true, true, true, true, true, true, true, true, true, true, true, true, false, false] rfl rfl (one_of HT_.out (by kernel_rfl)) (by decide) (fun K hK => ?_)
                                  refine value_ (w1 := ?_) (v := ?_) (by rfl) rfl ?_ ?_
                                  rotate_left 2
                                  · go_simp
                                    constructor
                                    · rfl
                                    · rfl
                                  refine hK.out _ _ ⟨(World.cell?_alloc_lt _ _ _ (World.block_lt_of_cell? _ _ (((HB.out.cell (World.block_lt_of_cell? w _ hw161_0)).trans hw161_0)))).trans (((HB.out.cell (World.block_lt_of_cell? w _ hw161_0)).trans hw161_0)), (World.cell?_alloc_lt _ _ _ (World.block_lt_of_cell? _ _ (((HB.out.cell (World.block_lt_of_cell? w _ hw162_0)).trans hw162_0)))).trans (((HB.out.cell (World.block_lt_of_cell? w _ hw162_0)).trans hw162_0))⟩ (fun hHeld => ?_)
                                  clear hK K
                                  refine norm_ (a' := ?_) ?_ ?_
                                  rotate_left
                                  · show Act.put _ (some 119) _ = _
                                    simp only [Act.put, List.setIfInBounds_toArray, List.set_cons_zero, List.set_cons_succ, i64_w, i32_w]
                                    rfl
                                  refine one_ (i := 12) (N := some 120) #[true, true, true, true, true, true, true, true, true, true, true, true, true, false] rfl rfl (one_of HT_.out (by kernel_rfl)) (by decide) (fun K hK => ?_)
                                  refine Kd.R_append_step k32 (w0 := w) w.heap.size (by rfl) (.tmp 108) (.tmp 119) 33 32 (.agg #[(.int .u8 0), (.int .u8 0)]) 2 rfl Try.underlying33 info32 rfl (by decide) (by omega) u10 x10_4 (⟨Int.tmod (rd l1 x105_4) 16, rd l2 x105_4⟩ : S32) [.int .u8 (Int.tmod (rd l1 x105_4) 16), .int .u8 (rd l2 x105_4)] (fun k_ => (w.heap.size ≤ k_)) (fun _ => False) rfl rfl ?aP (fun _ hk => hk.elim) ?aF ?aO ?aB ?aS ?aL ?_
                                  (case aP => exact k32_mkM _ _ _ (⟨Int.tmod (rd l1 x105_4) 16, rd l2 x105_4⟩ : S32))
                                  (case aB => exact (by repeat (first | (with_reducible first | exact HB.out | apply below_alloc | apply Go.Proofs.Ytnjbobboookfmaa.Ext.below_bytes | apply pw_below_drewN | apply below_drew1) | exact HB.out)))
                                  (case aF => exact (fun k_ hk => (Nat.le_trans (below_size (by repeat (first | (with_reducible first | exact HB.out | apply below_alloc | apply Go.Proofs.Ytnjbobboookfmaa.Ext.below_bytes | apply pw_below_drewN | apply below_drew1) | exact HB.out))) hk)))
                                  (case aO => exact (by (with_reducible repeat (first | apply Kd.R_alloc | apply Go.Proofs.Ytnjbobboookfmaa.Ext.R_bytes | apply Kd.R_drewN | apply Kd.R_drew)); exact HO_10.out))
                                  (case aS => exact (below_size (by repeat (first | (with_reducible first | exact HB.out | apply below_alloc | apply Go.Proofs.Ytnjbobboookfmaa.Ext.below_bytes | apply pw_below_drewN | apply below_drew1) | exact HB.out))))
                                  (case aL => have := LMc52.out; omega)
                                  intro v164 w54 ho hb hg hat
                                  rw [← Ny163.out] at ho
                                  have n0_ := Aside0.mk (Kd.V_afterv (ok := (fun k_ => (P0_ k_ ∨ w.heap.size ≤ k_) ∧ some k_ ≠ (u7 : Value).ownBlock)) (by (with_reducible repeat (first | apply Kd.V_alloc | apply Go.Proofs.Ytnjbobboookfmaa.Ext.R_bytes | apply Kd.V_drewN | apply Kd.V_drew)); exact Kd.V_mono HO_0.out (fun _ hk => ⟨⟨hk.1, hk.2.1⟩, hk.2.2⟩)) hg hat)
                                  have n1_ := Aside0.mk (Kd.N_afterv (ok := (fun k_ => (P0_ k_ ∨ w.heap.size ≤ k_))) (by (with_reducible repeat (first | apply Kd.N_alloc | apply Go.Proofs.Ytnjbobboookfmaa.Ext.R_bytes | apply Kd.N_drewN | apply Kd.N_drew)); exact HO_7.out) hg hat)
                                  have n2_ := Aside0.mk (hb)
                                  have n3_ := Aside0.mk (ho)
                                  clear HO_0
                                  clear HO_7
                                  clear HB
                                  clear HO_10
                                  have HO_0 := n0_
                                  have HO_7 := n1_
                                  have HB := n2_
                                  have HO165 := n3_
                                  clear n0_ n1_ n2_ n3_
                                  clear ho hb hg hat
                                  refine hK.out _ _ ⟨((HB.out.cell (World.block_lt_of_cell? w _ hw161_0)).trans hw161_0), ((HB.out.cell (World.block_lt_of_cell? w _ hw162_0)).trans hw162_0)⟩ (fun hHeld => ?_)
                                  clear hK K
                                  refine norm_ (a' := ?_) ?_ ?_
                                  rotate_left
                                  · show Act.put _ (some 120) _ = _
                                    simp only [Act.put, List.setIfInBounds_toArray, List.set_cons_zero, List.set_cons_succ, i64_w, i32_w]
                                    rfl
                                  refine pure_ (i := 13) (N := some 10) (v := ?_) (a' := ?_) #[true, true, true, true, true, true, true, true, true, true, true, true, true, true] rfl rfl (any_of HT_.out (by kernel_rfl)) (fun _ _ _ h => h) (Or.inl ⟨by rfl, ?_⟩) ?_ ?_
                                  rotate_left
                                  · intro w'
                                    go_simp
                                    with_reducible rfl
                                  rotate_left
                                  · simp only [Act.put, List.setIfInBounds_toArray, List.set_cons_zero, List.set_cons_succ, i64_w, i32_w]
                                    rfl
                                  refine done_ (done_of HT_.out (by kernel_rfl)) ?_
                                  try go_wp2
                                  go_roundg k4
                                  case measure => have := HJ3.out; have := HJ11.out; have := HK3.out; have := HK4.out; omega
                                  case rel => exact ⟨(y163), (wrap64 (x105_4 + 1)), (by first | rfl | (simp; done) | (simp [*]; done)), H', ⟨by have := HJ3.out; have := HJ11.out; have := HK3.out; have := HK4.out; omega⟩, ⟨by (with_reducible repeat (first | apply Kd.V_alloc | apply Go.Proofs.Ytnjbobboookfmaa.Ext.R_bytes | apply Kd.V_drewN | apply Kd.V_drew)); exact Kd.V_mono HO_0.out (fun _ hk => ⟨hk.1.1, ⟨hk.1.2, hk.2⟩⟩)⟩, ⟨by (with_reducible repeat (first | apply Kd.N_alloc | apply Go.Proofs.Ytnjbobboookfmaa.Ext.R_bytes | apply Kd.N_drewN | apply Kd.N_drew)); exact HO_7.out⟩, ⟨by (with_reducible repeat (first | apply Kd.R_alloc | apply Go.Proofs.Ytnjbobboookfmaa.Ext.R_bytes | apply Kd.R_drewN | apply Kd.R_drew)); exact HO165.out⟩, ⟨by repeat (first | (with_reducible first | exact HB.out | apply below_alloc | apply Go.Proofs.Ytnjbobboookfmaa.Ext.below_bytes | apply pw_below_drewN | apply below_drew1) | exact HB.out)⟩⟩
                                · rw [if_neg c52] at H
                                  exact absurd H (by simp)
                              · rw [if_neg c51] at H
                                exact absurd H (by simp)
                            · rw [if_neg c50] at H
                              exact absurd H (by simp)
                          · rw [if_neg c49] at H
                            exact absurd H (by simp)
                        · rw [if_neg c48] at H
                          have c48b0 : decide (x105_4 < (l1.length : Int)) = false := decide_eq_false c48
                          (try (have c48b90 := c48b0; simp only [hl150_4] at c48b90))
                          clear c48
                          by_cases c55 : x7_3.length < 3518437208883
                          · rw [if_pos c55] at H
                            have LMc55 := Aside0.mk c55
                            clear c55
                            obtain ⟨y166, hy166⟩ : ∃ y_ : List (S30), y_ = (x7_3 ++ [(⟨1, 65, 0, 1, 3, 2, ([] : List Int)⟩ : S30)]) := ⟨_, rfl⟩
                            replace H : (if ([] : List (S27)).length + l0.length < 2932031007402 then ((some (([] : List (S27)) ++ l0 : List (S27))).bind fun y169 => (if y169.length < 2932031007402 then ((impl_TableRun.f k4 y166 x10_4).bind fun t175 => ((spec_TableOf.f k4 (y169 ++ [(⟨1, 1, 65, 0, ([] : List Int), 3, 2⟩ : S27)])).bind fun t178 => (if (t175.length : Int) = (x10_4.length : Int) then (laws_FnTableSteps.l2 k4 t175 t178 x10_4 (x10_4.length : Int) 0) else (some false)))) else (none))) else (none)) = some r := by first | (rw [hy166]; with_reducible exact H) | (have H2_ := (Option.bind_some _ _).symm.trans H; rw [hy166]; with_reducible exact H2_) | (have H2_ := (Option.bind_some _ _).symm.trans H; with_reducible exact H2_) | with_reducible exact H | (rw [hy166]; exact H) | exact H
                            have Ny166 := Aside0.mk hy166
                            clear hy166
                            by_cases c56 : ([] : List (S27)).length + l0.length < 2932031007402
                            · rw [if_pos c56] at H
                              have LMc56 := Aside0.mk c56
                              clear c56
                              obtain ⟨y169, hy169⟩ : ∃ y_ : List (S27), y_ = (([] : List (S27)) ++ l0) := ⟨_, rfl⟩
                              replace H : (if y169.length < 2932031007402 then ((impl_TableRun.f k4 y166 x10_4).bind fun t175 => ((spec_TableOf.f k4 (y169 ++ [(⟨1, 1, 65, 0, ([] : List Int), 3, 2⟩ : S27)])).bind fun t178 => (if (t175.length : Int) = (x10_4.length : Int) then (laws_FnTableSteps.l2 k4 t175 t178 x10_4 (x10_4.length : Int) 0) else (some false)))) else (none)) = some r := by first | (rw [hy169]; with_reducible exact H) | (have H2_ := (Option.bind_some _ _).symm.trans H; rw [hy169]; with_reducible exact H2_) | (have H2_ := (Option.bind_some _ _).symm.trans H; with_reducible exact H2_) | with_reducible exact H | (rw [hy169]; exact H) | exact H
                              have Ny169 := Aside0.mk hy169
                              clear hy169
                              by_cases c57 : y169.length < 2932031007402
                              · rw [if_pos c57] at H
                                have LMc57 := Aside0.mk c57
                                clear c57
                                obtain ⟨y172, hy172⟩ : ∃ y_ : List (S27), y_ = (y169 ++ [(⟨1, 1, 65, 0, ([] : List Int), 3, 2⟩ : S27)]) := ⟨_, rfl⟩
                                replace H : ((impl_TableRun.f k4 y166 x10_4).bind fun t175 => ((spec_TableOf.f k4 y172).bind fun t178 => (if (t175.length : Int) = (x10_4.length : Int) then (laws_FnTableSteps.l2 k4 t175 t178 x10_4 (x10_4.length : Int) 0) else (some false)))) = some r := by first | (rw [hy172]; with_reducible exact H) | (have H2_ := (Option.bind_some _ _).symm.trans H; rw [hy172]; with_reducible exact H2_) | (have H2_ := (Option.bind_some _ _).symm.trans H; with_reducible exact H2_) | with_reducible exact H | (rw [hy172]; exact H) | exact H
                                have Ny172 := Aside0.mk hy172
                                clear hy172
                                replace H := Option.bind_eq_some_iff.mp H
                                obtain ⟨t175, A580, H⟩ := H
                                replace H : ((spec_TableOf.f k4 y172).bind fun t178 => (if (t175.length : Int) = (x10_4.length : Int) then (laws_FnTableSteps.l2 k4 t175 t178 x10_4 (x10_4.length : Int) 0) else (some false))) = some r := H
                                have A58 := Aside0.mk A580
                                clear A580
                                replace H := Option.bind_eq_some_iff.mp H
                                obtain ⟨t178, A590, H⟩ := H
                                replace H : (if (t175.length : Int) = (x10_4.length : Int) then (laws_FnTableSteps.l2 k4 t175 t178 x10_4 (x10_4.length : Int) 0) else (some false)) = some r := H
                                have A59 := Aside0.mk A590
                                clear A590
                                by_cases c60 : (t175.length : Int) = (x10_4.length : Int)
                                · rw [if_pos c60] at H
                                  have c60b0 : ((t175.length : Int) == (x10_4.length : Int)) = true := beq_iff_eq.mpr c60
                                  have c60b1 : ((t175.length : Int) != (x10_4.length : Int)) = false := bne_eq_false_iff_eq.mpr c60
                                  have c60b2 : (t175.length == x10_4.length) = true := by first | simpa using c60 | (simp at c60 ⊢; omega)
                                  clear c60
                                  have H' := Aside0.mk H
                                  clear H
                                  go_wp2_with (first | ((with_reducible refine gate_builtin (b := .append) (xs := #[.tmp 122, .tmp 124]) rfl ?_); (try (refine gate_guard (by rfl) ?_; dsimp only)); at_builtin; refine Kd.N_append k30 (w0 := w) w.heap.size rfl (.tmp 122) (.tmp 124) 25 30 (.agg #[(.int .i64 0), (.int .u8 0), (.int .u8 0), (.int .u8 0), (.int .u8 0), (.int .u8 0), (.slice none 0 0)]) 40 rfl Try.underlying25 info30 rfl (by decide) (by omega) u7 x7_3 (⟨1, 65, 0, 1, 3, 2, ([] : List Int)⟩ : S30) [.int .i64 1, .int .u8 65, .int .u8 0, .int .u8 1, .int .u8 3, .int .u8 2, .slice none 0 0] (fun k_ => (P0_ k_ ∨ w.heap.size ≤ k_) ∧ some k_ ≠ (u10 : Value).ownBlock) (fun k_ => ((fun k_ => (P0_ k_ ∨ w.heap.size ≤ k_) ∧ some k_ ≠ (u10 : Value).ownBlock)) k_ ∧ some k_ ≠ (u7 : Value).ownBlock) rfl rfl ?aP (fun _ hk => hk) ?aF ?aO ?aB ?aS ?aL ?_; (case aP => exact (k30_mkF _ _ (⟨1, 65, 0, 1, 3, 2, ([] : List Int)⟩ : S30) (Nat.le_refl _) (Kd.F_nil _ _ _))); (case aB => exact (by repeat (first | (with_reducible first | exact HB.out | apply below_alloc | apply Go.Proofs.Ytnjbobboookfmaa.Ext.below_bytes | apply pw_below_drewN | apply below_drew1) | exact HB.out))); (case aF => exact (fun k_ hk => ⟨(.inr (Nat.le_trans (below_size (by repeat (first | (with_reducible first | exact HB.out | apply below_alloc | apply Go.Proofs.Ytnjbobboookfmaa.Ext.below_bytes | apply pw_below_drewN | apply below_drew1) | exact HB.out))) hk)), Kd.fresh' (Kd.R_lt (by (with_reducible repeat (first | apply Kd.R_alloc | apply Go.Proofs.Ytnjbobboookfmaa.Ext.R_bytes | apply Kd.R_drewN | apply Kd.R_drew)); exact HO_10.out)) k_ hk⟩)); (case aO => exact (by (with_reducible repeat (first | apply Kd.N_alloc | apply Go.Proofs.Ytnjbobboookfmaa.Ext.R_bytes | apply Kd.N_drewN | apply Kd.N_drew)); exact HO_7.out)); (case aS => exact (below_size (by repeat (first | (with_reducible first | exact HB.out | apply below_alloc | apply Go.Proofs.Ytnjbobboookfmaa.Ext.below_bytes | apply pw_below_drewN | apply below_drew1) | exact HB.out)))); (case aL => have := LMc55.out; omega); intro v167 w61 ho hb hg hat; rw [← Ny166.out] at ho; have n0_ := Aside0.mk (Kd.V_afterv (ok := (fun k_ => (P0_ k_ ∨ w.heap.size ≤ k_) ∧ some k_ ≠ (u10 : Value).ownBlock)) (by (with_reducible repeat (first | apply Kd.V_alloc | apply Go.Proofs.Ytnjbobboookfmaa.Ext.R_bytes | apply Kd.V_drewN | apply Kd.V_drew)); exact Kd.V_mono HO_0.out (fun _ hk => ⟨⟨hk.1, hk.2.2⟩, hk.2.1⟩)) hg hat); have n1_ := Aside0.mk (Kd.R_over' (by (with_reducible repeat (first | apply Kd.R_alloc | apply Go.Proofs.Ytnjbobboookfmaa.Ext.R_bytes | apply Kd.R_drewN | apply Kd.R_drew)); exact HO_10.out) (Kd.N_typed (by (with_reducible repeat (first | apply Kd.N_alloc | apply Go.Proofs.Ytnjbobboookfmaa.Ext.R_bytes | apply Kd.N_drewN | apply Kd.N_drew)); exact HO_7.out)) (by decide) hg); have n2_ := Aside0.mk (hb); have n3_ := Aside0.mk (ho); clear HO_0; clear HO_10; clear HB; clear HO_7; have HO_0 := n0_; have HO_10 := n1_; have HB := n2_; have HO168 := n3_; clear n0_ n1_ n2_ n3_; clear ho hb hg hat) | ((with_reducible refine gate_builtin (b := .append) (xs := #[.const (.slice none 0 0), .tmp 126]) rfl ?_); (try (refine gate_guard (by rfl) ?_; dsimp only)); at_builtin; refine Kd.N_append_rows k27 (w0 := w) w.heap.size rfl (.const (.slice none 0 0)) (.tmp 126) 22 27 (.agg #[(.int .i64 0), (.int .u8 0), (.int .u8 0), (.int .u8 0), (.slice none 0 0), (.int .u8 0), (.int .u8 0)]) 48 rfl Try.underlying22 info27 rfl (by decide) (by omega) (.slice none 0 0) ([] : List (S27)) l0 _ _ _ (fun k_ => (P0_ k_ ∨ w.heap.size ≤ k_) ∧ some k_ ≠ (u10 : Value).ownBlock ∧ some k_ ≠ (v167 : Value).ownBlock) (fun k_ => ((fun k_ => (P0_ k_ ∨ w.heap.size ≤ k_) ∧ some k_ ≠ (u10 : Value).ownBlock ∧ some k_ ≠ (v167 : Value).ownBlock)) k_ ∧ some k_ ≠ (.slice none 0 0 : Value).ownBlock) rfl rfl ?aO ?aR (fun _ hk => hk) ?aF ?aB ?aS ?aL ?_; (case aR => exact (by skip; exact Kd.V_F (Kd.V_mono (ok' := (fun k_ => ((fun k_ => (P0_ k_ ∨ w.heap.size ≤ k_) ∧ some k_ ≠ (u10 : Value).ownBlock ∧ some k_ ≠ (v167 : Value).ownBlock)) k_ ∧ some k_ ≠ (.slice none 0 0 : Value).ownBlock)) (HO_0.out) (fun k_ hk => ⟨⟨hk.1.1, ⟨hk.1.2, hk.2⟩⟩, (by simp [Value.ownBlock])⟩)))); (case aB => exact (by repeat (first | (with_reducible first | exact HB.out | apply below_alloc | apply Go.Proofs.Ytnjbobboookfmaa.Ext.below_bytes | apply pw_below_drewN | apply below_drew1) | exact HB.out))); (case aF => exact (fun k_ hk => ⟨(.inr (Nat.le_trans (below_size (by repeat (first | (with_reducible first | exact HB.out | apply below_alloc | apply Go.Proofs.Ytnjbobboookfmaa.Ext.below_bytes | apply pw_below_drewN | apply below_drew1) | exact HB.out))) hk)), Kd.fresh' (Kd.R_lt (by (with_reducible repeat (first | apply Kd.R_alloc | apply Go.Proofs.Ytnjbobboookfmaa.Ext.R_bytes | apply Kd.R_drewN | apply Kd.R_drew)); exact HO_10.out)) k_ hk, Kd.fresh' (Kd.N_lt (by (with_reducible repeat (first | apply Kd.N_alloc | apply Go.Proofs.Ytnjbobboookfmaa.Ext.R_bytes | apply Kd.N_drewN | apply Kd.N_drew)); exact HO168.out)) k_ hk⟩)); (case aO => exact ((Kd.N_nil _ _ _ _ (fun k_ => (P0_ k_ ∨ w.heap.size ≤ k_) ∧ some k_ ≠ (u10 : Value).ownBlock ∧ some k_ ≠ (v167 : Value).ownBlock)))); (case aS => exact (below_size (by repeat (first | (with_reducible first | exact HB.out | apply below_alloc | apply Go.Proofs.Ytnjbobboookfmaa.Ext.below_bytes | apply pw_below_drewN | apply below_drew1) | exact HB.out)))); (case aL => have := LMc56.out; omega); intro v170 w62 ho hb hg hat; rw [← Ny169.out] at ho; have n0_ := Aside0.mk (Kd.V_afterv (Kd.V_apart_nil (by (with_reducible repeat (first | apply Kd.V_alloc | apply Go.Proofs.Ytnjbobboookfmaa.Ext.R_bytes | apply Kd.V_drewN | apply Kd.V_drew)); exact HO_0.out)) hg hat); have n1_ := Aside0.mk (Kd.R_grown (by (with_reducible repeat (first | apply Kd.R_alloc | apply Go.Proofs.Ytnjbobboookfmaa.Ext.R_bytes | apply Kd.R_drewN | apply Kd.R_drew)); exact HO_10.out) hg (fun _ _ => by simp [Value.ownBlock])); have n2_ := Aside0.mk (Kd.N_afterv (Kd.N_apart_nil (by (with_reducible repeat (first | apply Kd.N_alloc | apply Go.Proofs.Ytnjbobboookfmaa.Ext.R_bytes | apply Kd.N_drewN | apply Kd.N_drew)); exact HO168.out)) hg hat); have n3_ := Aside0.mk (hb); have n4_ := Aside0.mk (ho); clear HO_0; clear HO_10; clear HO168; clear HB; have HO_0 := n0_; have HO_10 := n1_; have HO168 := n2_; have HB := n3_; have HO171 := n4_; clear n0_ n1_ n2_ n3_ n4_; clear ho hb hg hat) | ((with_reducible refine gate_builtin (b := .append) (xs := #[.tmp 127, .tmp 129]) rfl ?_); (try (refine gate_guard (by rfl) ?_; dsimp only)); at_builtin; refine Kd.N_append k27 (w0 := w) w.heap.size rfl (.tmp 127) (.tmp 129) 22 27 (.agg #[(.int .i64 0), (.int .u8 0), (.int .u8 0), (.int .u8 0), (.slice none 0 0), (.int .u8 0), (.int .u8 0)]) 48 rfl Try.underlying22 info27 rfl (by decide) (by omega) v170 y169 (⟨1, 1, 65, 0, ([] : List Int), 3, 2⟩ : S27) [.int .i64 1, .int .u8 1, .int .u8 65, .int .u8 0, .slice none 0 0, .int .u8 3, .int .u8 2] (fun k_ => (P0_ k_ ∨ w.heap.size ≤ k_) ∧ some k_ ≠ (u10 : Value).ownBlock ∧ some k_ ≠ (v167 : Value).ownBlock) (fun k_ => ((fun k_ => (P0_ k_ ∨ w.heap.size ≤ k_) ∧ some k_ ≠ (u10 : Value).ownBlock ∧ some k_ ≠ (v167 : Value).ownBlock)) k_ ∧ some k_ ≠ (v170 : Value).ownBlock) rfl rfl ?aP (fun _ hk => hk) ?aF ?aO ?aB ?aS ?aL ?_; (case aP => exact (k27_mkF _ _ (⟨1, 1, 65, 0, ([] : List Int), 3, 2⟩ : S27) (Nat.le_refl _) (Kd.F_nil _ _ _))); (case aB => exact (by repeat (first | (with_reducible first | exact HB.out | apply below_alloc | apply Go.Proofs.Ytnjbobboookfmaa.Ext.below_bytes | apply pw_below_drewN | apply below_drew1) | exact HB.out))); (case aF => exact (fun k_ hk => ⟨(.inr (Nat.le_trans (below_size (by repeat (first | (with_reducible first | exact HB.out | apply below_alloc | apply Go.Proofs.Ytnjbobboookfmaa.Ext.below_bytes | apply pw_below_drewN | apply below_drew1) | exact HB.out))) hk)), Kd.fresh' (Kd.R_lt (by (with_reducible repeat (first | apply Kd.R_alloc | apply Go.Proofs.Ytnjbobboookfmaa.Ext.R_bytes | apply Kd.R_drewN | apply Kd.R_drew)); exact HO_10.out)) k_ hk, Kd.fresh' (Kd.N_lt (by (with_reducible repeat (first | apply Kd.N_alloc | apply Go.Proofs.Ytnjbobboookfmaa.Ext.R_bytes | apply Kd.N_drewN | apply Kd.N_drew)); exact HO168.out)) k_ hk⟩)); (case aO => exact (by (with_reducible repeat (first | apply Kd.N_alloc | apply Go.Proofs.Ytnjbobboookfmaa.Ext.R_bytes | apply Kd.N_drewN | apply Kd.N_drew)); exact HO171.out)); (case aS => exact (below_size (by repeat (first | (with_reducible first | exact HB.out | apply below_alloc | apply Go.Proofs.Ytnjbobboookfmaa.Ext.below_bytes | apply pw_below_drewN | apply below_drew1) | exact HB.out)))); (case aL => have := LMc57.out; omega); intro v173 w63 ho hb hg hat; rw [← Ny172.out] at ho; have n0_ := Aside0.mk (Kd.V_afterv (ok := (fun k_ => (P0_ k_ ∨ w.heap.size ≤ k_) ∧ some k_ ≠ (u10 : Value).ownBlock ∧ some k_ ≠ (v167 : Value).ownBlock)) (by (with_reducible repeat (first | apply Kd.V_alloc | apply Go.Proofs.Ytnjbobboookfmaa.Ext.R_bytes | apply Kd.V_drewN | apply Kd.V_drew)); exact Kd.V_mono HO_0.out (fun _ hk => ⟨⟨hk.1.1.1, ⟨hk.1.1.2, hk.1.2⟩⟩, hk.2⟩)) hg hat); have n1_ := Aside0.mk (Kd.R_over' (by (with_reducible repeat (first | apply Kd.R_alloc | apply Go.Proofs.Ytnjbobboookfmaa.Ext.R_bytes | apply Kd.R_drewN | apply Kd.R_drew)); exact HO_10.out) (Kd.N_typed (by (with_reducible repeat (first | apply Kd.N_alloc | apply Go.Proofs.Ytnjbobboookfmaa.Ext.R_bytes | apply Kd.N_drewN | apply Kd.N_drew)); exact HO171.out)) (by decide) hg); have n2_ := Aside0.mk (Kd.N_afterv (ok := (fun k_ => (P0_ k_ ∨ w.heap.size ≤ k_) ∧ some k_ ≠ (u10 : Value).ownBlock)) (by (with_reducible repeat (first | apply Kd.N_alloc | apply Go.Proofs.Ytnjbobboookfmaa.Ext.R_bytes | apply Kd.N_drewN | apply Kd.N_drew)); exact HO168.out) hg hat); have n3_ := Aside0.mk (hb); have n4_ := Aside0.mk (ho); clear HO_0; clear HO_10; clear HO168; clear HB; clear HO171; have HO_0 := n0_; have HO_10 := n1_; have HO168 := n2_; have HB := n3_; have HO174 := n4_; clear n0_ n1_ n2_ n3_ n4_; clear ho hb hg hat; obtain ⟨Ao64, co64, eo64⟩ := Kd.N_slice HO168.out; subst eo64; obtain ⟨Ao65, co65, eo65⟩ := Kd.R_slice HO_10.out; subst eo65) | ((with_reducible refine gate_callee (f := 7) rfl ?_); refine goesL_ (some 133) rfl rfl Try.func7 (by kernel_rfl) rfl #[.slice Ao64 y166.length co64, .slice Ao65 x10_4.length co65] rfl (by (try simp only [List.map_toArray, List.map_cons, List.map_nil]); first | done | rfl | (simp only [List.length_drop, List.length_take]; rfl) | (simp [Act.eval, *]; done) | (simp [Act.eval, *]; unfold wrap64; omega)) ?_; (with_reducible refine (impl_TableRun.calls k4 _ _ y166 _ _ x10_4 t175 _ ?side1 ?side2 ?side3 ?side4 A58.out).mono ?_); (case side1 => repeat (first | exact (Kd.N_reads' HO168.out).2.2 | (with_reducible refine Kd.C_alloc ?_ _) | (with_reducible refine Kd.C_drewN ?_ _) | (with_reducible refine Kd.C_drew ?_))); (case side2 => exact (Kd.N_reads' HO168.out).2.1); (case side3 => repeat (first | exact (Kd.R_reads' HO_10.out).2.2 | (with_reducible refine Kd.C_alloc ?_ _) | (with_reducible refine Kd.C_drewN ?_ _) | (with_reducible refine Kd.C_drew ?_))); (case side4 => exact (Kd.R_reads' HO_10.out).2.1); rintro e w66 ⟨v176, rfl, ho0, hb⟩; refine ⟨_, rfl, ?_⟩; have n0_ := Aside0.mk (Kd.V_elder' (by (with_reducible repeat (first | apply Kd.V_alloc | apply Go.Proofs.Ytnjbobboookfmaa.Ext.R_bytes | apply Kd.V_drewN | apply Kd.V_drew)); exact HO_0.out) (Kd.R_base ho0) hb); have n1_ := Aside0.mk (Kd.R_below (by (with_reducible repeat (first | apply Kd.R_alloc | apply Go.Proofs.Ytnjbobboookfmaa.Ext.R_bytes | apply Kd.R_drewN | apply Kd.R_drew)); exact HO_10.out) hb); have n2_ := Aside0.mk (Kd.N_elder' (by (with_reducible repeat (first | apply Kd.N_alloc | apply Go.Proofs.Ytnjbobboookfmaa.Ext.R_bytes | apply Kd.N_drewN | apply Kd.N_drew)); exact HO168.out) (Kd.R_base ho0) hb); have n3_ := Aside0.mk (Kd.N_elder' (by (with_reducible repeat (first | apply Kd.N_alloc | apply Go.Proofs.Ytnjbobboookfmaa.Ext.R_bytes | apply Kd.N_drewN | apply Kd.N_drew)); exact HO174.out) (Kd.R_base ho0) hb); have n4_ := Aside0.mk (Kd.R_lower (Kd.R_newM (M := fun k_ => (w.heap.size ≤ k_)) ho0 (below_size (by repeat (first | (with_reducible first | exact HB.out | apply below_alloc | apply Go.Proofs.Ytnjbobboookfmaa.Ext.below_bytes | apply pw_below_drewN | apply below_drew1) | exact HB.out))) (fun k_ h_ => h_)) (below_size (by repeat (first | (with_reducible first | exact HB.out | apply below_alloc | apply Go.Proofs.Ytnjbobboookfmaa.Ext.below_bytes | apply pw_below_drewN | apply below_drew1) | exact HB.out)))); have n5_ := Aside0.mk (below_step (by repeat (first | (with_reducible first | exact HB.out | apply below_alloc | apply Go.Proofs.Ytnjbobboookfmaa.Ext.below_bytes | apply pw_below_drewN | apply below_drew1) | exact HB.out)) hb); clear HO_0; clear HO_10; clear HO168; clear HO174; clear HB; have HO_0 := n0_; have HO_10 := n1_; have HO168 := n2_; have HO174 := n3_; have HO177 := n4_; have HB := n5_; clear n0_ n1_ n2_ n3_ n4_ n5_; (try clear hb); (try clear hb2); (try clear hk); (try clear hi); (try clear ho0); obtain ⟨Ao67, co67, eo67⟩ := Kd.N_slice HO174.out; subst eo67) | ((with_reducible refine gate_callee (f := 8) rfl ?_); refine goesL_ (some 135) rfl rfl Try.func8 (by kernel_rfl) rfl #[.slice Ao67 y172.length co67] rfl (by (try simp only [List.map_toArray, List.map_cons, List.map_nil]); first | done | rfl | (simp only [List.length_drop, List.length_take]; rfl) | (simp [Act.eval, *]; done) | (simp [Act.eval, *]; unfold wrap64; omega)) ?_; (with_reducible refine (spec_TableOf.calls k4 _ _ y172 t178 _ ?side1 ?side2 A59.out).mono ?_); (case side1 => repeat (first | exact (Kd.N_reads' HO174.out).2.2 | (with_reducible refine Kd.C_alloc ?_ _) | (with_reducible refine Kd.C_drewN ?_ _) | (with_reducible refine Kd.C_drew ?_))); (case side2 => exact (Kd.N_reads' HO174.out).2.1); rintro e w68 ⟨v179, rfl, ho0, hb⟩; refine ⟨_, rfl, ?_⟩; have n0_ := Aside0.mk (Kd.V_elder' (by (with_reducible repeat (first | apply Kd.V_alloc | apply Go.Proofs.Ytnjbobboookfmaa.Ext.R_bytes | apply Kd.V_drewN | apply Kd.V_drew)); exact HO_0.out) (Kd.R_base ho0) hb); have n1_ := Aside0.mk (Kd.R_below (by (with_reducible repeat (first | apply Kd.R_alloc | apply Go.Proofs.Ytnjbobboookfmaa.Ext.R_bytes | apply Kd.R_drewN | apply Kd.R_drew)); exact HO_10.out) hb); have n2_ := Aside0.mk (Kd.N_elder' (by (with_reducible repeat (first | apply Kd.N_alloc | apply Go.Proofs.Ytnjbobboookfmaa.Ext.R_bytes | apply Kd.N_drewN | apply Kd.N_drew)); exact HO168.out) (Kd.R_base ho0) hb); have n3_ := Aside0.mk (Kd.N_elder' (by (with_reducible repeat (first | apply Kd.N_alloc | apply Go.Proofs.Ytnjbobboookfmaa.Ext.R_bytes | apply Kd.N_drewN | apply Kd.N_drew)); exact HO174.out) (Kd.R_base ho0) hb); have n4_ := Aside0.mk (Kd.R_below (by (with_reducible repeat (first | apply Kd.R_alloc | apply Go.Proofs.Ytnjbobboookfmaa.Ext.R_bytes | apply Kd.R_drewN | apply Kd.R_drew)); exact HO177.out) hb); have n5_ := Aside0.mk (Kd.R_lower (Kd.R_newM (M := fun k_ => (w.heap.size ≤ k_)) ho0 (below_size (by repeat (first | (with_reducible first | exact HB.out | apply below_alloc | apply Go.Proofs.Ytnjbobboookfmaa.Ext.below_bytes | apply pw_below_drewN | apply below_drew1) | exact HB.out))) (fun k_ h_ => h_)) (below_size (by repeat (first | (with_reducible first | exact HB.out | apply below_alloc | apply Go.Proofs.Ytnjbobboookfmaa.Ext.below_bytes | apply pw_below_drewN | apply below_drew1) | exact HB.out)))); have n6_ := Aside0.mk (below_step (by repeat (first | (with_reducible first | exact HB.out | apply below_alloc | apply Go.Proofs.Ytnjbobboookfmaa.Ext.below_bytes | apply pw_below_drewN | apply below_drew1) | exact HB.out)) hb); clear HO_0; clear HO_10; clear HO168; clear HO174; clear HO177; clear HB; have HO_0 := n0_; have HO_10 := n1_; have HO168 := n2_; have HO174 := n3_; have HO177 := n4_; have HO180 := n5_; have HB := n6_; clear n0_ n1_ n2_ n3_ n4_ n5_ n6_; (try clear hb); (try clear hb2); (try clear hk); (try clear hi); (try clear ho0); obtain ⟨Ao69, co69, eo69⟩ := Kd.R_slice HO177.out; subst eo69))
                                  go_loopg [143] k4 (fun kq v143 w' => ∃ (x143_5 : Int), v143 = .int .i64 x143_5 ∧ Aside0 (laws_FnTableSteps.l2 kq t175 t178 x10_4 (x10_4.length : Int) x143_5 = some r) ∧ Aside0 (kq ≤ k4) ∧ Aside0 (Kd.R k39 39 w' w.heap.size (fun k_ => (w.heap.size ≤ k_)) (.slice Ao69 t175.length co69) t175) ∧ Aside0 (Kd.R (Kd.int .u8) 5 w' w.heap.size (fun k_ => (w.heap.size ≤ k_)) v179 t178) ∧ Aside0 (Kd.R k32 32 w' w.heap.size (fun k_ => (w.heap.size ≤ k_)) (.slice Ao65 x10_4.length co65) x10_4) ∧ Aside0 (Below w.heap.size w w'))
                                  case atStart => exact ⟨(0), (by first | rfl | (simp; done) | (simp [*]; done)), H', ⟨Nat.le_refl _⟩, ⟨by (with_reducible repeat (first | apply Kd.R_alloc | apply Go.Proofs.Ytnjbobboookfmaa.Ext.R_bytes | apply Kd.R_drewN | apply Kd.R_drew)); exact Kd.R_mono HO177.out (fun _ hk => hk.1)⟩, ⟨by (with_reducible repeat (first | apply Kd.R_alloc | apply Go.Proofs.Ytnjbobboookfmaa.Ext.R_bytes | apply Kd.R_drewN | apply Kd.R_drew)); exact Kd.R_mono HO180.out (fun _ hk => hk.1)⟩, ⟨by (with_reducible repeat (first | apply Kd.R_alloc | apply Go.Proofs.Ytnjbobboookfmaa.Ext.R_bytes | apply Kd.R_drewN | apply Kd.R_drew)); exact HO_10.out⟩, ⟨by repeat (first | (with_reducible first | exact HB.out | apply below_alloc | apply Go.Proofs.Ytnjbobboookfmaa.Ext.below_bytes | apply pw_below_drewN | apply below_drew1) | exact HB.out)⟩⟩
                                  case round =>
                                    clear H'
                                    try clear c1
                                    try clear p1
                                    try clear q1
                                    try clear hx1
                                    try clear c2
                                    try clear p2
                                    try clear c3
                                    try clear c4
                                    try clear c5
                                    try clear c6
                                    try clear p6
                                    try clear c7
                                    try clear c7b0
                                    try clear c7b1
                                    try clear c8
                                    try clear c11
                                    try clear c13
                                    try clear c13b0
                                    try clear c13b1
                                    try clear c14
                                    try clear c14b0
                                    try clear c14b1
                                    try clear c15
                                    try clear p15
                                    try clear q15
                                    try clear hx15
                                    try clear c16
                                    try clear c16b0
                                    try clear p16
                                    try clear q16
                                    try clear hx16
                                    try clear c17
                                    try clear c17b0
                                    try clear c18
                                    try clear c18b0
                                    try clear c19
                                    try clear c19b0
                                    try clear c22
                                    try clear c22b0
                                    try clear c25
                                    try clear c25b0
                                    try clear c28
                                    try clear c28b0
                                    try clear c31
                                    try clear c31b0
                                    try clear c34
                                    try clear c34b0
                                    try clear c34b1
                                    try clear c38
                                    try clear c48
                                    try clear c48b0
                                    try clear c49
                                    try clear c49b0
                                    try clear c50
                                    try clear c50b0
                                    try clear c51
                                    try clear c51b0
                                    try clear c52
                                    try clear c55
                                    try clear c56
                                    try clear c57
                                    try clear c60
                                    try clear c60b0
                                    try clear c60b1
                                    try clear c60b2
                                    try clear p64
                                    try clear hcz21_0
                                    try clear hcz21_1
                                    try clear hcz21_2
                                    try clear hcz21_3
                                    try clear hcz21_4
                                    try clear hcz21_5
                                    try clear hcz21_6
                                    try clear hcz24_0
                                    try clear hcz24_1
                                    try clear hcz24_2
                                    try clear hcz24_3
                                    try clear hcz24_4
                                    try clear hcz24_5
                                    try clear hcz24_6
                                    try clear hcz27_0
                                    try clear hcz27_1
                                    try clear hcz27_2
                                    try clear hcz27_3
                                    try clear hcz27_4
                                    try clear hcz27_5
                                    try clear hcz27_6
                                    try clear hcz30_0
                                    try clear hcz30_1
                                    try clear hcz30_2
                                    try clear hcz30_3
                                    try clear hcz30_4
                                    try clear hcz30_5
                                    try clear hcz30_6
                                    try clear hcz33_0
                                    try clear hcz33_1
                                    try clear hcz33_2
                                    try clear hcz33_3
                                    try clear hcz33_4
                                    try clear hcz33_5
                                    try clear hcz33_6
                                    try clear hcz36_0
                                    try clear hcz36_1
                                    try clear hcz36_2
                                    try clear hcz36_3
                                    try clear hcz36_4
                                    try clear hcz36_5
                                    try clear hcz36_6
                                    try clear hcz40_0
                                    try clear hcz40_1
                                    try clear hcz40_2
                                    try clear hcz40_3
                                    try clear hcz40_4
                                    try clear hcz40_5
                                    try clear hcz40_6
                                    try clear hfz21_0
                                    try clear hfz21_1
                                    try clear hfz21_2
                                    try clear hfz21_3
                                    try clear hfz21_4
                                    try clear hfz21_5
                                    try clear hfz21_6
                                    try clear hfz24_0
                                    try clear hfz24_1
                                    try clear hfz24_2
                                    try clear hfz24_3
                                    try clear hfz24_4
                                    try clear hfz24_5
                                    try clear hfz24_6
                                    try clear hfz27_0
                                    try clear hfz27_1
                                    try clear hfz27_2
                                    try clear hfz27_3
                                    try clear hfz27_4
                                    try clear hfz27_5
                                    try clear hfz27_6
                                    try clear hfz30_0
                                    try clear hfz30_1
                                    try clear hfz30_2
                                    try clear hfz30_3
                                    try clear hfz30_4
                                    try clear hfz30_5
                                    try clear hfz30_6
                                    try clear hfz33_0
                                    try clear hfz33_1
                                    try clear hfz33_2
                                    try clear hfz33_3
                                    try clear hfz33_4
                                    try clear hfz33_5
                                    try clear hfz33_6
                                    try clear hfz36_0
                                    try clear hfz36_1
                                    try clear hfz36_2
                                    try clear hfz36_3
                                    try clear hfz36_4
                                    try clear hfz36_5
                                    try clear hfz36_6
                                    try clear hfz40_0
                                    try clear hfz40_1
                                    try clear hfz40_2
                                    try clear hfz40_3
                                    try clear hfz40_4
                                    try clear hfz40_5
                                    try clear hfz40_6
                                    try clear hx150_0
                                    try clear hx150_1
                                    try clear hx150_2
                                    try clear hx150_3
                                    try clear hx150_4
                                    try clear hx150_5
                                    try clear hx150_6
                                    try clear hx161_0
                                    try clear hx162_0
                                    try clear p1
                                    try clear p15
                                    try clear p150
                                    try clear p161
                                    try clear p162
                                    try clear p2
                                    try clear p6
                                    try clear q1
                                    try clear q15
                                    try clear q150
                                    try clear q161
                                    try clear q162
                                    obtain ⟨x143_5, rfl, HA, HK5, HO_13, HO_14, HO_141, HB⟩ := hrel
                                    cases gk with
                                    | zero => exact absurd HA.out (by simp [laws_FnTableSteps.l2])
                                    | succ k5 =>
                                      have H := HA.out
                                      clear HA
                                      simp only [laws_FnTableSteps.l2] at H
                                      by_cases c70 : x143_5 < (x10_4.length : Int)
                                      · rw [if_pos c70] at H
                                        have c70b0 : decide (x143_5 < (x10_4.length : Int)) = true := decide_eq_true c70
                                        (try (have c70b90 := c70b0; simp only [hl150_4] at c70b90))
                                        clear c70
                                        by_cases c71 : 0 ≤ x143_5
                                        · rw [if_pos c71] at H
                                          have c71b0 : decide (0 ≤ x143_5) = true := decide_eq_true c71
                                          clear c71
                                          by_cases c72 : x143_5 < (x10_4.length : Int)
                                          · rw [if_pos c72] at H
                                            have c72b0 : decide (x143_5 < (x10_4.length : Int)) = true := decide_eq_true c72
                                            (try (have c72b90 := c72b0; simp only [hl150_4] at c72b90))
                                            clear c72
                                            obtain ⟨ji73, hji73⟩ : ∃ j_ : Int, (Go.bits .or .i64 (wrap64 ((wrap64 ((rd_T32 x10_4 x143_5).f0)) * 256)) (wrap64 ((rd_T32 x10_4 x143_5).f1))) = j_ := ⟨_, rfl⟩
                                            replace H : (if 0 ≤ (ji73) then (if (ji73) < (t178.length : Int) then (if x143_5 < (t175.length : Int) then (if ((rd_T39 t175 x143_5).f0) = (Go.bits .and .u8 (rd t178 (ji73)) 15) then (if ((rd_T39 t175 x143_5).f1) = ((rd t178 (ji73)) / 16) then (laws_FnTableSteps.l2 k5 t175 t178 x10_4 (x10_4.length : Int) (wrap64 (x143_5 + 1))) else (some false)) else (some false)) else (none)) else (none)) else (none)) = some r := by first | (rw [hji73] at H; exact H) | (simp only [hji73] at H ⊢; exact H)
                                            by_cases c74 : 0 ≤ (ji73)
                                            · rw [if_pos c74] at H
                                              have c74b0 : decide (0 ≤ (ji73)) = true := decide_eq_true c74
                                              clear c74
                                              by_cases c75 : (ji73) < (t178.length : Int)
                                              · rw [if_pos c75] at H
                                                have c75b0 : decide ((ji73) < (t178.length : Int)) = true := decide_eq_true c75
                                                (try (have c75b90 := c75b0; simp only [hl150_4] at c75b90))
                                                clear c75
                                                by_cases c76 : x143_5 < (t175.length : Int)
                                                · rw [if_pos c76] at H
                                                  have c76b0 : decide (x143_5 < (t175.length : Int)) = true := decide_eq_true c76
                                                  (try (have c76b90 := c76b0; simp only [hl150_4] at c76b90))
                                                  clear c76
                                                  by_cases c77 : ((rd_T39 t175 x143_5).f0) = (Go.bits .and .u8 (rd t178 (ji73)) 15)
                                                  · rw [if_pos c77] at H
                                                    have c77b0 : (((rd_T39 t175 x143_5).f0) == (Go.bits .and .u8 (rd t178 (ji73)) 15)) = true := beq_iff_eq.mpr c77
                                                    have c77b1 : (((rd_T39 t175 x143_5).f0) != (Go.bits .and .u8 (rd t178 (ji73)) 15)) = false := bne_eq_false_iff_eq.mpr c77
                                                    clear c77
                                                    by_cases c78 : ((rd_T39 t175 x143_5).f1) = ((rd t178 (ji73)) / 16)
                                                    · rw [if_pos c78] at H
                                                      have c78b0 : (((rd_T39 t175 x143_5).f1) == ((rd t178 (ji73)) / 16)) = true := beq_iff_eq.mpr c78
                                                      have c78b1 : (((rd_T39 t175 x143_5).f1) != ((rd t178 (ji73)) / 16)) = false := bne_eq_false_iff_eq.mpr c78
                                                      clear c78
                                                      have H' := Aside0.mk H
                                                      clear H
                                                      have p181 : 0 ≤ (x143_5 : Int) := of_decide_eq_true (by first | (with_reducible assumption) | assumption)
                                                      have q181 : x143_5 < (x10_4.length : Int) := of_decide_eq_true (by first | (with_reducible assumption) | assumption)
                                                      obtain ⟨ad181, e181, hx181_0, hx181_1⟩ := at_T32 (Kd.R_reads' HO_141.out).2.2 x143_5 p181 q181
                                                      cases e181
                                                      replace p181 := eq_true p181
                                                      replace q181 := eq_true q181
                                                      go_wp2_with (first | ((with_reducible refine gate_dst (N := 16) rfl ?_); (try (refine gate_guard (by rfl) ?_; dsimp only)); refine box_event ?hg (N := 16) ?hd (cs := #[.int .u8 0, .int .u8 0]) (t := 32) ?hr ?_; (case hd => rfl); (case hg => rfl); (case hr => first | (go_simp; done) | (go_simp; rfl)); intro gb182 hg w79 hbox hb; have n0_ := Aside0.mk (Kd.R_below (by (with_reducible repeat (first | apply Kd.R_alloc | apply Go.Proofs.Ytnjbobboookfmaa.Ext.R_bytes | apply Kd.R_drewN | apply Kd.R_drew)); exact HO_13.out) hb); have n1_ := Aside0.mk (Kd.R_below (by (with_reducible repeat (first | apply Kd.R_alloc | apply Go.Proofs.Ytnjbobboookfmaa.Ext.R_bytes | apply Kd.R_drewN | apply Kd.R_drew)); exact HO_14.out) hb); have n2_ := Aside0.mk (Kd.R_below (Kd.R_elderB (by (with_reducible repeat (first | apply Kd.R_alloc | apply Go.Proofs.Ytnjbobboookfmaa.Ext.R_bytes | apply Kd.R_drewN | apply Kd.R_drew)); exact HO_141.out) gb182 (Nat.le_of_eq hg.symm)) hb); have n3_ := Aside0.mk (below_step (by repeat (first | (with_reducible first | exact HB.out | apply below_alloc | apply Go.Proofs.Ytnjbobboookfmaa.Ext.below_bytes | apply pw_below_drewN | apply below_drew1) | exact HB.out)) hb); have n4_ := Aside0.mk (hbox); have n5_ := Aside0.mk ((by rw [hg]; exact (below_size (by repeat (first | (with_reducible first | exact HB.out | apply below_alloc | apply Go.Proofs.Ytnjbobboookfmaa.Ext.below_bytes | apply pw_below_drewN | apply below_drew1) | exact HB.out))) : w.heap.size ≤ gb182)); have n6_ := Aside0.mk ((by rw [hg]; exact (below_size (by repeat (first | (with_reducible first | exact HB.out | apply below_alloc | apply Go.Proofs.Ytnjbobboookfmaa.Ext.below_bytes | apply pw_below_drewN | apply below_drew1) | exact HB.out))) : w.heap.size ≤ gb182)); clear HO_13; clear HO_14; clear HO_141; clear HB; have HO_13 := n0_; have HO_14 := n1_; have HO_141 := n2_; have HB := n3_; have BK182 := n4_; have GW182 := n5_; have GE182 := n6_; clear n0_ n1_ n2_ n3_ n4_ n5_ n6_; clear hb hbox hg; have hcz80_0 : w79.cell? ⟨gb182, 0, none⟩ = some (.int .u8 0) := (blk_cell BK182.out 0).trans rfl; have hcz80_1 : w79.cell? ⟨gb182, 1, none⟩ = some (.int .u8 0) := (blk_cell BK182.out 1).trans rfl; have hfz80_0 := blk_frozen BK182.out 0; have hfz80_1 := blk_frozen BK182.out 1; obtain ⟨Ao81, co81, eo81⟩ := Kd.R_slice HO_14.out; subst eo81; have p183 : 0 ≤ ((ji73) : Int) := of_decide_eq_true (by first | (with_reducible assumption) | assumption); have q183 : (ji73) < (t178.length : Int) := of_decide_eq_true (by first | (with_reducible assumption) | assumption); obtain ⟨ad183, e183, hx183_0⟩ := Kd.at_int (Kd.R_reads' HO_14.out).2.2 (ji73) p183 q183; cases e183; have hn183_0 : ad183.block ≠ gb182 := Kd.own_blk (Kd.R_ne HO_14.out BK182.out (by decide)); have hn183_1 : ad183.block ≠ gb182 := Kd.own_blk (Kd.R_ne HO_14.out BK182.out (by decide)); replace hx183_0 := (cell_far (p := ⟨gb182, 0, none⟩) (by first | (rw [add_block]; exact hn183_0) | (show (Addr.add _ _).block ≠ _; rw [add_block]; exact hn183_0) | exact hn183_0) (.int .u8 ((rd_T32 x10_4 x143_5).f0))).trans hx183_0; replace hx183_0 := (cell_far (p := ⟨gb182, 1, none⟩) (by first | (rw [add_block]; exact hn183_1) | (show (Addr.add _ _).block ≠ _; rw [add_block]; exact hn183_1) | exact hn183_1) (.int .u8 ((rd_T32 x10_4 x143_5).f1))).trans hx183_0; clear hn183_0; clear hn183_1; replace p183 := eq_true p183; replace q183 := eq_true q183; have p184 : 0 ≤ (x143_5 : Int) := of_decide_eq_true (by first | (with_reducible assumption) | assumption); have q184 : x143_5 < (t175.length : Int) := of_decide_eq_true (by first | (with_reducible assumption) | assumption); obtain ⟨ad184, e184, hx184_0, hx184_1⟩ := at_T39 (Kd.R_reads' HO_13.out).2.2 x143_5 p184 q184; cases e184; have hn184_0 : ad184.block ≠ gb182 := Kd.own_blk (Kd.R_ne HO_13.out BK182.out (by decide)); have hn184_1 : ad184.block ≠ gb182 := Kd.own_blk (Kd.R_ne HO_13.out BK182.out (by decide)); replace hx184_0 := (cell_far (p := ⟨gb182, 0, none⟩) (by first | (rw [add_block]; exact hn184_0) | (show (Addr.add _ _).block ≠ _; rw [add_block]; exact hn184_0) | exact hn184_0) (.int .u8 ((rd_T32 x10_4 x143_5).f0))).trans hx184_0; replace hx184_1 := (cell_far (p := ⟨gb182, 0, none⟩) (by first | (rw [add_block]; exact hn184_0) | (show (Addr.add _ _).block ≠ _; rw [add_block]; exact hn184_0) | exact hn184_0) (.int .u8 ((rd_T32 x10_4 x143_5).f0))).trans hx184_1; replace hx184_0 := (cell_far (p := ⟨gb182, 1, none⟩) (by first | (rw [add_block]; exact hn184_1) | (show (Addr.add _ _).block ≠ _; rw [add_block]; exact hn184_1) | exact hn184_1) (.int .u8 ((rd_T32 x10_4 x143_5).f1))).trans hx184_0; replace hx184_1 := (cell_far (p := ⟨gb182, 1, none⟩) (by first | (rw [add_block]; exact hn184_1) | (show (Addr.add _ _).block ≠ _; rw [add_block]; exact hn184_1) | exact hn184_1) (.int .u8 ((rd_T32 x10_4 x143_5).f1))).trans hx184_1; clear hn184_0; clear hn184_1; replace p184 := eq_true p184; replace q184 := eq_true q184; have p185 : 0 ≤ (x143_5 : Int) := of_decide_eq_true (by first | (with_reducible assumption) | assumption); have q185 : x143_5 < (t175.length : Int) := of_decide_eq_true (by first | (with_reducible assumption) | assumption); obtain ⟨ad185, e185, hx185_0, hx185_1⟩ := at_T39 (Kd.R_reads' HO_13.out).2.2 x143_5 p185 q185; obtain rfl : ad184 = ad185 := (by injection e185); have hn185_0 : ad184.block ≠ gb182 := Kd.own_blk (Kd.R_ne HO_13.out BK182.out (by decide)); have hn185_1 : ad184.block ≠ gb182 := Kd.own_blk (Kd.R_ne HO_13.out BK182.out (by decide)); replace hx185_0 := (cell_far (p := ⟨gb182, 0, none⟩) (by first | (rw [add_block]; exact hn185_0) | (show (Addr.add _ _).block ≠ _; rw [add_block]; exact hn185_0) | exact hn185_0) (.int .u8 ((rd_T32 x10_4 x143_5).f0))).trans hx185_0; replace hx185_1 := (cell_far (p := ⟨gb182, 0, none⟩) (by first | (rw [add_block]; exact hn185_0) | (show (Addr.add _ _).block ≠ _; rw [add_block]; exact hn185_0) | exact hn185_0) (.int .u8 ((rd_T32 x10_4 x143_5).f0))).trans hx185_1; replace hx185_0 := (cell_far (p := ⟨gb182, 1, none⟩) (by first | (rw [add_block]; exact hn185_1) | (show (Addr.add _ _).block ≠ _; rw [add_block]; exact hn185_1) | exact hn185_1) (.int .u8 ((rd_T32 x10_4 x143_5).f1))).trans hx185_0; replace hx185_1 := (cell_far (p := ⟨gb182, 1, none⟩) (by first | (rw [add_block]; exact hn185_1) | (show (Addr.add _ _).block ≠ _; rw [add_block]; exact hn185_1) | exact hn185_1) (.int .u8 ((rd_T32 x10_4 x143_5).f1))).trans hx185_1; clear hn185_0; clear hn185_1; replace p185 := eq_true p185; replace q185 := eq_true q185))
                                                      go_roundg k5
                                                      case measure => have := HJ3.out; have := HJ11.out; have := HK3.out; have := HK4.out; have := HK5.out; omega
                                                      case rel => exact ⟨(wrap64 (x143_5 + 1)), (by first | rfl | (simp; done) | (simp [*]; done)), H', ⟨by have := HJ3.out; have := HJ11.out; have := HK3.out; have := HK4.out; have := HK5.out; omega⟩, ⟨by (with_reducible repeat (first | apply Kd.R_alloc | apply Go.Proofs.Ytnjbobboookfmaa.Ext.R_bytes | apply Kd.R_drewN | apply Kd.R_drew)); exact Kd.R_mono (Kd.R_far (p := ⟨gb182, 1, none⟩) (Kd.R_far (p := ⟨gb182, 0, none⟩) (Kd.R_types HO_13.out BK182.out (by decide)) (fun _ hk => hk.2) (.int .u8 ((rd_T32 x10_4 x143_5).f0))) (fun _ hk => hk.2) (.int .u8 ((rd_T32 x10_4 x143_5).f1))) (fun _ hk => hk.1)⟩, ⟨by (with_reducible repeat (first | apply Kd.R_alloc | apply Go.Proofs.Ytnjbobboookfmaa.Ext.R_bytes | apply Kd.R_drewN | apply Kd.R_drew)); exact Kd.R_mono (Kd.R_far (p := ⟨gb182, 1, none⟩) (Kd.R_far (p := ⟨gb182, 0, none⟩) (Kd.R_types HO_14.out BK182.out (by decide)) (fun _ hk => hk.2) (.int .u8 ((rd_T32 x10_4 x143_5).f0))) (fun _ hk => hk.2) (.int .u8 ((rd_T32 x10_4 x143_5).f1))) (fun _ hk => hk.1)⟩, ⟨by (with_reducible repeat (first | apply Kd.R_alloc | apply Go.Proofs.Ytnjbobboookfmaa.Ext.R_bytes | apply Kd.R_drewN | apply Kd.R_drew)); exact Kd.R_mono (Kd.R_far (p := ⟨gb182, 1, none⟩) (Kd.R_far (p := ⟨gb182, 0, none⟩) (Kd.R_mono HO_141.out (fun k_ hk => (⟨hk, hk.2⟩ : _ ∧ k_ ≠ gb182))) (fun _ hk => hk.2) (.int .u8 ((rd_T32 x10_4 x143_5).f0))) (fun _ hk => hk.2) (.int .u8 ((rd_T32 x10_4 x143_5).f1))) (fun _ hk => hk.1.1)⟩, ⟨by repeat (first | (with_reducible first | exact HB.out | apply below_alloc | apply Go.Proofs.Ytnjbobboookfmaa.Ext.below_bytes | apply pw_below_drewN | apply below_drew1 | refine below_set ?_ GE182.out) | exact HB.out)⟩⟩
                                                    · rw [if_neg c78] at H
                                                      have c78b0 : (((rd_T39 t175 x143_5).f1) == ((rd t178 (ji73)) / 16)) = false := beq_eq_false_iff_ne.mpr c78
                                                      have c78b1 : (((rd_T39 t175 x143_5).f1) != ((rd t178 (ji73)) / 16)) = true := bne_iff_ne.mpr c78
                                                      obtain rfl := Option.some.inj H
                                                      have p181 : 0 ≤ (x143_5 : Int) := of_decide_eq_true (by first | (with_reducible assumption) | assumption)
                                                      have q181 : x143_5 < (x10_4.length : Int) := of_decide_eq_true (by first | (with_reducible assumption) | assumption)
                                                      obtain ⟨ad181, e181, hx181_0, hx181_1⟩ := at_T32 (Kd.R_reads' HO_141.out).2.2 x143_5 p181 q181
                                                      cases e181
                                                      replace p181 := eq_true p181
                                                      replace q181 := eq_true q181
                                                      go_wp2_with (first | ((with_reducible refine gate_dst (N := 16) rfl ?_); (try (refine gate_guard (by rfl) ?_; dsimp only)); refine box_event ?hg (N := 16) ?hd (cs := #[.int .u8 0, .int .u8 0]) (t := 32) ?hr ?_; (case hd => rfl); (case hg => rfl); (case hr => first | (go_simp; done) | (go_simp; rfl)); intro gb182 hg w82 hbox hb; have n0_ := Aside0.mk (Kd.R_below (by (with_reducible repeat (first | apply Kd.R_alloc | apply Go.Proofs.Ytnjbobboookfmaa.Ext.R_bytes | apply Kd.R_drewN | apply Kd.R_drew)); exact HO_13.out) hb); have n1_ := Aside0.mk (Kd.R_below (by (with_reducible repeat (first | apply Kd.R_alloc | apply Go.Proofs.Ytnjbobboookfmaa.Ext.R_bytes | apply Kd.R_drewN | apply Kd.R_drew)); exact HO_14.out) hb); have n2_ := Aside0.mk (Kd.R_below (Kd.R_elderB (by (with_reducible repeat (first | apply Kd.R_alloc | apply Go.Proofs.Ytnjbobboookfmaa.Ext.R_bytes | apply Kd.R_drewN | apply Kd.R_drew)); exact HO_141.out) gb182 (Nat.le_of_eq hg.symm)) hb); have n3_ := Aside0.mk (below_step (by repeat (first | (with_reducible first | exact HB.out | apply below_alloc | apply Go.Proofs.Ytnjbobboookfmaa.Ext.below_bytes | apply pw_below_drewN | apply below_drew1) | exact HB.out)) hb); have n4_ := Aside0.mk (hbox); have n5_ := Aside0.mk ((by rw [hg]; exact (below_size (by repeat (first | (with_reducible first | exact HB.out | apply below_alloc | apply Go.Proofs.Ytnjbobboookfmaa.Ext.below_bytes | apply pw_below_drewN | apply below_drew1) | exact HB.out))) : w.heap.size ≤ gb182)); have n6_ := Aside0.mk ((by rw [hg]; exact (below_size (by repeat (first | (with_reducible first | exact HB.out | apply below_alloc | apply Go.Proofs.Ytnjbobboookfmaa.Ext.below_bytes | apply pw_below_drewN | apply below_drew1) | exact HB.out))) : w.heap.size ≤ gb182)); clear HO_13; clear HO_14; clear HO_141; clear HB; have HO_13 := n0_; have HO_14 := n1_; have HO_141 := n2_; have HB := n3_; have BK182 := n4_; have GW182 := n5_; have GE182 := n6_; clear n0_ n1_ n2_ n3_ n4_ n5_ n6_; clear hb hbox hg; have hcz83_0 : w82.cell? ⟨gb182, 0, none⟩ = some (.int .u8 0) := (blk_cell BK182.out 0).trans rfl; have hcz83_1 : w82.cell? ⟨gb182, 1, none⟩ = some (.int .u8 0) := (blk_cell BK182.out 1).trans rfl; have hfz83_0 := blk_frozen BK182.out 0; have hfz83_1 := blk_frozen BK182.out 1; obtain ⟨Ao84, co84, eo84⟩ := Kd.R_slice HO_14.out; subst eo84; have p183 : 0 ≤ ((ji73) : Int) := of_decide_eq_true (by first | (with_reducible assumption) | assumption); have q183 : (ji73) < (t178.length : Int) := of_decide_eq_true (by first | (with_reducible assumption) | assumption); obtain ⟨ad183, e183, hx183_0⟩ := Kd.at_int (Kd.R_reads' HO_14.out).2.2 (ji73) p183 q183; cases e183; have hn183_0 : ad183.block ≠ gb182 := Kd.own_blk (Kd.R_ne HO_14.out BK182.out (by decide)); have hn183_1 : ad183.block ≠ gb182 := Kd.own_blk (Kd.R_ne HO_14.out BK182.out (by decide)); replace hx183_0 := (cell_far (p := ⟨gb182, 0, none⟩) (by first | (rw [add_block]; exact hn183_0) | (show (Addr.add _ _).block ≠ _; rw [add_block]; exact hn183_0) | exact hn183_0) (.int .u8 ((rd_T32 x10_4 x143_5).f0))).trans hx183_0; replace hx183_0 := (cell_far (p := ⟨gb182, 1, none⟩) (by first | (rw [add_block]; exact hn183_1) | (show (Addr.add _ _).block ≠ _; rw [add_block]; exact hn183_1) | exact hn183_1) (.int .u8 ((rd_T32 x10_4 x143_5).f1))).trans hx183_0; clear hn183_0; clear hn183_1; replace p183 := eq_true p183; replace q183 := eq_true q183; have p184 : 0 ≤ (x143_5 : Int) := of_decide_eq_true (by first | (with_reducible assumption) | assumption); have q184 : x143_5 < (t175.length : Int) := of_decide_eq_true (by first | (with_reducible assumption) | assumption); obtain ⟨ad184, e184, hx184_0, hx184_1⟩ := at_T39 (Kd.R_reads' HO_13.out).2.2 x143_5 p184 q184; cases e184; have hn184_0 : ad184.block ≠ gb182 := Kd.own_blk (Kd.R_ne HO_13.out BK182.out (by decide)); have hn184_1 : ad184.block ≠ gb182 := Kd.own_blk (Kd.R_ne HO_13.out BK182.out (by decide)); replace hx184_0 := (cell_far (p := ⟨gb182, 0, none⟩) (by first | (rw [add_block]; exact hn184_0) | (show (Addr.add _ _).block ≠ _; rw [add_block]; exact hn184_0) | exact hn184_0) (.int .u8 ((rd_T32 x10_4 x143_5).f0))).trans hx184_0; replace hx184_1 := (cell_far (p := ⟨gb182, 0, none⟩) (by first | (rw [add_block]; exact hn184_0) | (show (Addr.add _ _).block ≠ _; rw [add_block]; exact hn184_0) | exact hn184_0) (.int .u8 ((rd_T32 x10_4 x143_5).f0))).trans hx184_1; replace hx184_0 := (cell_far (p := ⟨gb182, 1, none⟩) (by first | (rw [add_block]; exact hn184_1) | (show (Addr.add _ _).block ≠ _; rw [add_block]; exact hn184_1) | exact hn184_1) (.int .u8 ((rd_T32 x10_4 x143_5).f1))).trans hx184_0; replace hx184_1 := (cell_far (p := ⟨gb182, 1, none⟩) (by first | (rw [add_block]; exact hn184_1) | (show (Addr.add _ _).block ≠ _; rw [add_block]; exact hn184_1) | exact hn184_1) (.int .u8 ((rd_T32 x10_4 x143_5).f1))).trans hx184_1; clear hn184_0; clear hn184_1; replace p184 := eq_true p184; replace q184 := eq_true q184; have p185 : 0 ≤ (x143_5 : Int) := of_decide_eq_true (by first | (with_reducible assumption) | assumption); have q185 : x143_5 < (t175.length : Int) := of_decide_eq_true (by first | (with_reducible assumption) | assumption); obtain ⟨ad185, e185, hx185_0, hx185_1⟩ := at_T39 (Kd.R_reads' HO_13.out).2.2 x143_5 p185 q185; obtain rfl : ad184 = ad185 := (by injection e185); have hn185_0 : ad184.block ≠ gb182 := Kd.own_blk (Kd.R_ne HO_13.out BK182.out (by decide)); have hn185_1 : ad184.block ≠ gb182 := Kd.own_blk (Kd.R_ne HO_13.out BK182.out (by decide)); replace hx185_0 := (cell_far (p := ⟨gb182, 0, none⟩) (by first | (rw [add_block]; exact hn185_0) | (show (Addr.add _ _).block ≠ _; rw [add_block]; exact hn185_0) | exact hn185_0) (.int .u8 ((rd_T32 x10_4 x143_5).f0))).trans hx185_0; replace hx185_1 := (cell_far (p := ⟨gb182, 0, none⟩) (by first | (rw [add_block]; exact hn185_0) | (show (Addr.add _ _).block ≠ _; rw [add_block]; exact hn185_0) | exact hn185_0) (.int .u8 ((rd_T32 x10_4 x143_5).f0))).trans hx185_1; replace hx185_0 := (cell_far (p := ⟨gb182, 1, none⟩) (by first | (rw [add_block]; exact hn185_1) | (show (Addr.add _ _).block ≠ _; rw [add_block]; exact hn185_1) | exact hn185_1) (.int .u8 ((rd_T32 x10_4 x143_5).f1))).trans hx185_0; replace hx185_1 := (cell_far (p := ⟨gb182, 1, none⟩) (by first | (rw [add_block]; exact hn185_1) | (show (Addr.add _ _).block ≠ _; rw [add_block]; exact hn185_1) | exact hn185_1) (.int .u8 ((rd_T32 x10_4 x143_5).f1))).trans hx185_1; clear hn185_0; clear hn185_1; replace p185 := eq_true p185; replace q185 := eq_true q185))
                                                      go_ret
                                                      exact ⟨by first | rfl | (simp [errW_none, errW_some] <;> rfl) | (simp only [← hji73]; first | rfl | (simp [errW_none, errW_some] <;> rfl)) | (simp [*, errW_none, errW_some] <;> rfl), by repeat (first | (with_reducible first | exact HB.out | apply below_alloc | apply Go.Proofs.Ytnjbobboookfmaa.Ext.below_bytes | apply pw_below_drewN | apply below_drew1 | refine below_set ?_ GE182.out) | exact HB.out)⟩
                                                  · rw [if_neg c77] at H
                                                    have c77b0 : (((rd_T39 t175 x143_5).f0) == (Go.bits .and .u8 (rd t178 (ji73)) 15)) = false := beq_eq_false_iff_ne.mpr c77
                                                    have c77b1 : (((rd_T39 t175 x143_5).f0) != (Go.bits .and .u8 (rd t178 (ji73)) 15)) = true := bne_iff_ne.mpr c77
                                                    obtain rfl := Option.some.inj H
                                                    have p181 : 0 ≤ (x143_5 : Int) := of_decide_eq_true (by first | (with_reducible assumption) | assumption)
                                                    have q181 : x143_5 < (x10_4.length : Int) := of_decide_eq_true (by first | (with_reducible assumption) | assumption)
                                                    obtain ⟨ad181, e181, hx181_0, hx181_1⟩ := at_T32 (Kd.R_reads' HO_141.out).2.2 x143_5 p181 q181
                                                    cases e181
                                                    replace p181 := eq_true p181
                                                    replace q181 := eq_true q181
                                                    go_wp2_with (first | ((with_reducible refine gate_dst (N := 16) rfl ?_); (try (refine gate_guard (by rfl) ?_; dsimp only)); refine box_event ?hg (N := 16) ?hd (cs := #[.int .u8 0, .int .u8 0]) (t := 32) ?hr ?_; (case hd => rfl); (case hg => rfl); (case hr => first | (go_simp; done) | (go_simp; rfl)); intro gb182 hg w85 hbox hb; have n0_ := Aside0.mk (Kd.R_below (by (with_reducible repeat (first | apply Kd.R_alloc | apply Go.Proofs.Ytnjbobboookfmaa.Ext.R_bytes | apply Kd.R_drewN | apply Kd.R_drew)); exact HO_13.out) hb); have n1_ := Aside0.mk (Kd.R_below (by (with_reducible repeat (first | apply Kd.R_alloc | apply Go.Proofs.Ytnjbobboookfmaa.Ext.R_bytes | apply Kd.R_drewN | apply Kd.R_drew)); exact HO_14.out) hb); have n2_ := Aside0.mk (Kd.R_below (Kd.R_elderB (by (with_reducible repeat (first | apply Kd.R_alloc | apply Go.Proofs.Ytnjbobboookfmaa.Ext.R_bytes | apply Kd.R_drewN | apply Kd.R_drew)); exact HO_141.out) gb182 (Nat.le_of_eq hg.symm)) hb); have n3_ := Aside0.mk (below_step (by repeat (first | (with_reducible first | exact HB.out | apply below_alloc | apply Go.Proofs.Ytnjbobboookfmaa.Ext.below_bytes | apply pw_below_drewN | apply below_drew1) | exact HB.out)) hb); have n4_ := Aside0.mk (hbox); have n5_ := Aside0.mk ((by rw [hg]; exact (below_size (by repeat (first | (with_reducible first | exact HB.out | apply below_alloc | apply Go.Proofs.Ytnjbobboookfmaa.Ext.below_bytes | apply pw_below_drewN | apply below_drew1) | exact HB.out))) : w.heap.size ≤ gb182)); have n6_ := Aside0.mk ((by rw [hg]; exact (below_size (by repeat (first | (with_reducible first | exact HB.out | apply below_alloc | apply Go.Proofs.Ytnjbobboookfmaa.Ext.below_bytes | apply pw_below_drewN | apply below_drew1) | exact HB.out))) : w.heap.size ≤ gb182)); clear HO_13; clear HO_14; clear HO_141; clear HB; have HO_13 := n0_; have HO_14 := n1_; have HO_141 := n2_; have HB := n3_; have BK182 := n4_; have GW182 := n5_; have GE182 := n6_; clear n0_ n1_ n2_ n3_ n4_ n5_ n6_; clear hb hbox hg; have hcz86_0 : w85.cell? ⟨gb182, 0, none⟩ = some (.int .u8 0) := (blk_cell BK182.out 0).trans rfl; have hcz86_1 : w85.cell? ⟨gb182, 1, none⟩ = some (.int .u8 0) := (blk_cell BK182.out 1).trans rfl; have hfz86_0 := blk_frozen BK182.out 0; have hfz86_1 := blk_frozen BK182.out 1; obtain ⟨Ao87, co87, eo87⟩ := Kd.R_slice HO_14.out; subst eo87; have p183 : 0 ≤ ((ji73) : Int) := of_decide_eq_true (by first | (with_reducible assumption) | assumption); have q183 : (ji73) < (t178.length : Int) := of_decide_eq_true (by first | (with_reducible assumption) | assumption); obtain ⟨ad183, e183, hx183_0⟩ := Kd.at_int (Kd.R_reads' HO_14.out).2.2 (ji73) p183 q183; cases e183; have hn183_0 : ad183.block ≠ gb182 := Kd.own_blk (Kd.R_ne HO_14.out BK182.out (by decide)); have hn183_1 : ad183.block ≠ gb182 := Kd.own_blk (Kd.R_ne HO_14.out BK182.out (by decide)); replace hx183_0 := (cell_far (p := ⟨gb182, 0, none⟩) (by first | (rw [add_block]; exact hn183_0) | (show (Addr.add _ _).block ≠ _; rw [add_block]; exact hn183_0) | exact hn183_0) (.int .u8 ((rd_T32 x10_4 x143_5).f0))).trans hx183_0; replace hx183_0 := (cell_far (p := ⟨gb182, 1, none⟩) (by first | (rw [add_block]; exact hn183_1) | (show (Addr.add _ _).block ≠ _; rw [add_block]; exact hn183_1) | exact hn183_1) (.int .u8 ((rd_T32 x10_4 x143_5).f1))).trans hx183_0; clear hn183_0; clear hn183_1; replace p183 := eq_true p183; replace q183 := eq_true q183; have p184 : 0 ≤ (x143_5 : Int) := of_decide_eq_true (by first | (with_reducible assumption) | assumption); have q184 : x143_5 < (t175.length : Int) := of_decide_eq_true (by first | (with_reducible assumption) | assumption); obtain ⟨ad184, e184, hx184_0, hx184_1⟩ := at_T39 (Kd.R_reads' HO_13.out).2.2 x143_5 p184 q184; cases e184; have hn184_0 : ad184.block ≠ gb182 := Kd.own_blk (Kd.R_ne HO_13.out BK182.out (by decide)); have hn184_1 : ad184.block ≠ gb182 := Kd.own_blk (Kd.R_ne HO_13.out BK182.out (by decide)); replace hx184_0 := (cell_far (p := ⟨gb182, 0, none⟩) (by first | (rw [add_block]; exact hn184_0) | (show (Addr.add _ _).block ≠ _; rw [add_block]; exact hn184_0) | exact hn184_0) (.int .u8 ((rd_T32 x10_4 x143_5).f0))).trans hx184_0; replace hx184_1 := (cell_far (p := ⟨gb182, 0, none⟩) (by first | (rw [add_block]; exact hn184_0) | (show (Addr.add _ _).block ≠ _; rw [add_block]; exact hn184_0) | exact hn184_0) (.int .u8 ((rd_T32 x10_4 x143_5).f0))).trans hx184_1; replace hx184_0 := (cell_far (p := ⟨gb182, 1, none⟩) (by first | (rw [add_block]; exact hn184_1) | (show (Addr.add _ _).block ≠ _; rw [add_block]; exact hn184_1) | exact hn184_1) (.int .u8 ((rd_T32 x10_4 x143_5).f1))).trans hx184_0; replace hx184_1 := (cell_far (p := ⟨gb182, 1, none⟩) (by first | (rw [add_block]; exact hn184_1) | (show (Addr.add _ _).block ≠ _; rw [add_block]; exact hn184_1) | exact hn184_1) (.int .u8 ((rd_T32 x10_4 x143_5).f1))).trans hx184_1; clear hn184_0; clear hn184_1; replace p184 := eq_true p184; replace q184 := eq_true q184))
                                                    go_ret
                                                    exact ⟨by first | rfl | (simp [errW_none, errW_some] <;> rfl) | (simp only [← hji73]; first | rfl | (simp [errW_none, errW_some] <;> rfl)) | (simp [*, errW_none, errW_some] <;> rfl), by repeat (first | (with_reducible first | exact HB.out | apply below_alloc | apply Go.Proofs.Ytnjbobboookfmaa.Ext.below_bytes | apply pw_below_drewN | apply below_drew1 | refine below_set ?_ GE182.out) | exact HB.out)⟩
                                                · rw [if_neg c76] at H
                                                  exact absurd H (by simp)
                                              · rw [if_neg c75] at H
                                                exact absurd H (by simp)
                                            · rw [if_neg c74] at H
                                              exact absurd H (by simp)
                                          · rw [if_neg c72] at H
                                            exact absurd H (by simp)
                                        · rw [if_neg c71] at H
                                          exact absurd H (by simp)
                                      · rw [if_neg c70] at H
                                        have c70b0 : decide (x143_5 < (x10_4.length : Int)) = false := decide_eq_false c70
                                        (try (have c70b90 := c70b0; simp only [hl150_4] at c70b90))
                                        clear c70
                                        obtain rfl := Option.some.inj H
                                        go_wp2
                                        go_ret
                                        exact ⟨by first | rfl | (simp [errW_none, errW_some] <;> rfl) | (simp [*, errW_none, errW_some] <;> rfl), by repeat (first | (with_reducible first | exact HB.out | apply below_alloc | apply Go.Proofs.Ytnjbobboookfmaa.Ext.below_bytes | apply pw_below_drewN | apply below_drew1) | exact HB.out)⟩
                                · rw [if_neg c60] at H
                                  have c60b0 : ((t175.length : Int) == (x10_4.length : Int)) = false := beq_eq_false_iff_ne.mpr c60
                                  have c60b1 : ((t175.length : Int) != (x10_4.length : Int)) = true := bne_iff_ne.mpr c60
                                  have c60b2 : (t175.length == x10_4.length) = false := by first | simpa using c60 | (simp at c60 ⊢; omega)
                                  obtain rfl := Option.some.inj H
                                  go_wp2_with (first | ((with_reducible refine gate_builtin (b := .append) (xs := #[.tmp 122, .tmp 124]) rfl ?_); (try (refine gate_guard (by rfl) ?_; dsimp only)); at_builtin; refine Kd.N_append k30 (w0 := w) w.heap.size rfl (.tmp 122) (.tmp 124) 25 30 (.agg #[(.int .i64 0), (.int .u8 0), (.int .u8 0), (.int .u8 0), (.int .u8 0), (.int .u8 0), (.slice none 0 0)]) 40 rfl Try.underlying25 info30 rfl (by decide) (by omega) u7 x7_3 (⟨1, 65, 0, 1, 3, 2, ([] : List Int)⟩ : S30) [.int .i64 1, .int .u8 65, .int .u8 0, .int .u8 1, .int .u8 3, .int .u8 2, .slice none 0 0] (fun k_ => (P0_ k_ ∨ w.heap.size ≤ k_) ∧ some k_ ≠ (u10 : Value).ownBlock) (fun k_ => ((fun k_ => (P0_ k_ ∨ w.heap.size ≤ k_) ∧ some k_ ≠ (u10 : Value).ownBlock)) k_ ∧ some k_ ≠ (u7 : Value).ownBlock) rfl rfl ?aP (fun _ hk => hk) ?aF ?aO ?aB ?aS ?aL ?_; (case aP => exact (k30_mkF _ _ (⟨1, 65, 0, 1, 3, 2, ([] : List Int)⟩ : S30) (Nat.le_refl _) (Kd.F_nil _ _ _))); (case aB => exact (by repeat (first | (with_reducible first | exact HB.out | apply below_alloc | apply Go.Proofs.Ytnjbobboookfmaa.Ext.below_bytes | apply pw_below_drewN | apply below_drew1) | exact HB.out))); (case aF => exact (fun k_ hk => ⟨(.inr (Nat.le_trans (below_size (by repeat (first | (with_reducible first | exact HB.out | apply below_alloc | apply Go.Proofs.Ytnjbobboookfmaa.Ext.below_bytes | apply pw_below_drewN | apply below_drew1) | exact HB.out))) hk)), Kd.fresh' (Kd.R_lt (by (with_reducible repeat (first | apply Kd.R_alloc | apply Go.Proofs.Ytnjbobboookfmaa.Ext.R_bytes | apply Kd.R_drewN | apply Kd.R_drew)); exact HO_10.out)) k_ hk⟩)); (case aO => exact (by (with_reducible repeat (first | apply Kd.N_alloc | apply Go.Proofs.Ytnjbobboookfmaa.Ext.R_bytes | apply Kd.N_drewN | apply Kd.N_drew)); exact HO_7.out)); (case aS => exact (below_size (by repeat (first | (with_reducible first | exact HB.out | apply below_alloc | apply Go.Proofs.Ytnjbobboookfmaa.Ext.below_bytes | apply pw_below_drewN | apply below_drew1) | exact HB.out)))); (case aL => have := LMc55.out; omega); intro v167 w88 ho hb hg hat; rw [← Ny166.out] at ho; have n0_ := Aside0.mk (Kd.V_afterv (ok := (fun k_ => (P0_ k_ ∨ w.heap.size ≤ k_) ∧ some k_ ≠ (u10 : Value).ownBlock)) (by (with_reducible repeat (first | apply Kd.V_alloc | apply Go.Proofs.Ytnjbobboookfmaa.Ext.R_bytes | apply Kd.V_drewN | apply Kd.V_drew)); exact Kd.V_mono HO_0.out (fun _ hk => ⟨⟨hk.1, hk.2.2⟩, hk.2.1⟩)) hg hat); have n1_ := Aside0.mk (Kd.R_over' (by (with_reducible repeat (first | apply Kd.R_alloc | apply Go.Proofs.Ytnjbobboookfmaa.Ext.R_bytes | apply Kd.R_drewN | apply Kd.R_drew)); exact HO_10.out) (Kd.N_typed (by (with_reducible repeat (first | apply Kd.N_alloc | apply Go.Proofs.Ytnjbobboookfmaa.Ext.R_bytes | apply Kd.N_drewN | apply Kd.N_drew)); exact HO_7.out)) (by decide) hg); have n2_ := Aside0.mk (hb); have n3_ := Aside0.mk (ho); clear HO_0; clear HO_10; clear HB; clear HO_7; have HO_0 := n0_; have HO_10 := n1_; have HB := n2_; have HO168 := n3_; clear n0_ n1_ n2_ n3_; clear ho hb hg hat) | ((with_reducible refine gate_builtin (b := .append) (xs := #[.const (.slice none 0 0), .tmp 126]) rfl ?_); (try (refine gate_guard (by rfl) ?_; dsimp only)); at_builtin; refine Kd.N_append_rows k27 (w0 := w) w.heap.size rfl (.const (.slice none 0 0)) (.tmp 126) 22 27 (.agg #[(.int .i64 0), (.int .u8 0), (.int .u8 0), (.int .u8 0), (.slice none 0 0), (.int .u8 0), (.int .u8 0)]) 48 rfl Try.underlying22 info27 rfl (by decide) (by omega) (.slice none 0 0) ([] : List (S27)) l0 _ _ _ (fun k_ => (P0_ k_ ∨ w.heap.size ≤ k_) ∧ some k_ ≠ (u10 : Value).ownBlock ∧ some k_ ≠ (v167 : Value).ownBlock) (fun k_ => ((fun k_ => (P0_ k_ ∨ w.heap.size ≤ k_) ∧ some k_ ≠ (u10 : Value).ownBlock ∧ some k_ ≠ (v167 : Value).ownBlock)) k_ ∧ some k_ ≠ (.slice none 0 0 : Value).ownBlock) rfl rfl ?aO ?aR (fun _ hk => hk) ?aF ?aB ?aS ?aL ?_; (case aR => exact (by skip; exact Kd.V_F (Kd.V_mono (ok' := (fun k_ => ((fun k_ => (P0_ k_ ∨ w.heap.size ≤ k_) ∧ some k_ ≠ (u10 : Value).ownBlock ∧ some k_ ≠ (v167 : Value).ownBlock)) k_ ∧ some k_ ≠ (.slice none 0 0 : Value).ownBlock)) (HO_0.out) (fun k_ hk => ⟨⟨hk.1.1, ⟨hk.1.2, hk.2⟩⟩, (by simp [Value.ownBlock])⟩)))); (case aB => exact (by repeat (first | (with_reducible first | exact HB.out | apply below_alloc | apply Go.Proofs.Ytnjbobboookfmaa.Ext.below_bytes | apply pw_below_drewN | apply below_drew1) | exact HB.out))); (case aF => exact (fun k_ hk => ⟨(.inr (Nat.le_trans (below_size (by repeat (first | (with_reducible first | exact HB.out | apply below_alloc | apply Go.Proofs.Ytnjbobboookfmaa.Ext.below_bytes | apply pw_below_drewN | apply below_drew1) | exact HB.out))) hk)), Kd.fresh' (Kd.R_lt (by (with_reducible repeat (first | apply Kd.R_alloc | apply Go.Proofs.Ytnjbobboookfmaa.Ext.R_bytes | apply Kd.R_drewN | apply Kd.R_drew)); exact HO_10.out)) k_ hk, Kd.fresh' (Kd.N_lt (by (with_reducible repeat (first | apply Kd.N_alloc | apply Go.Proofs.Ytnjbobboookfmaa.Ext.R_bytes | apply Kd.N_drewN | apply Kd.N_drew)); exact HO168.out)) k_ hk⟩)); (case aO => exact ((Kd.N_nil _ _ _ _ (fun k_ => (P0_ k_ ∨ w.heap.size ≤ k_) ∧ some k_ ≠ (u10 : Value).ownBlock ∧ some k_ ≠ (v167 : Value).ownBlock)))); (case aS => exact (below_size (by repeat (first | (with_reducible first | exact HB.out | apply below_alloc | apply Go.Proofs.Ytnjbobboookfmaa.Ext.below_bytes | apply pw_below_drewN | apply below_drew1) | exact HB.out)))); (case aL => have := LMc56.out; omega); intro v170 w89 ho hb hg hat; rw [← Ny169.out] at ho; have n0_ := Aside0.mk (Kd.V_afterv (Kd.V_apart_nil (by (with_reducible repeat (first | apply Kd.V_alloc | apply Go.Proofs.Ytnjbobboookfmaa.Ext.R_bytes | apply Kd.V_drewN | apply Kd.V_drew)); exact HO_0.out)) hg hat); have n1_ := Aside0.mk (Kd.R_grown (by (with_reducible repeat (first | apply Kd.R_alloc | apply Go.Proofs.Ytnjbobboookfmaa.Ext.R_bytes | apply Kd.R_drewN | apply Kd.R_drew)); exact HO_10.out) hg (fun _ _ => by simp [Value.ownBlock])); have n2_ := Aside0.mk (Kd.N_afterv (Kd.N_apart_nil (by (with_reducible repeat (first | apply Kd.N_alloc | apply Go.Proofs.Ytnjbobboookfmaa.Ext.R_bytes | apply Kd.N_drewN | apply Kd.N_drew)); exact HO168.out)) hg hat); have n3_ := Aside0.mk (hb); have n4_ := Aside0.mk (ho); clear HO_0; clear HO_10; clear HO168; clear HB; have HO_0 := n0_; have HO_10 := n1_; have HO168 := n2_; have HB := n3_; have HO171 := n4_; clear n0_ n1_ n2_ n3_ n4_; clear ho hb hg hat) | ((with_reducible refine gate_builtin (b := .append) (xs := #[.tmp 127, .tmp 129]) rfl ?_); (try (refine gate_guard (by rfl) ?_; dsimp only)); at_builtin; refine Kd.N_append k27 (w0 := w) w.heap.size rfl (.tmp 127) (.tmp 129) 22 27 (.agg #[(.int .i64 0), (.int .u8 0), (.int .u8 0), (.int .u8 0), (.slice none 0 0), (.int .u8 0), (.int .u8 0)]) 48 rfl Try.underlying22 info27 rfl (by decide) (by omega) v170 y169 (⟨1, 1, 65, 0, ([] : List Int), 3, 2⟩ : S27) [.int .i64 1, .int .u8 1, .int .u8 65, .int .u8 0, .slice none 0 0, .int .u8 3, .int .u8 2] (fun k_ => (P0_ k_ ∨ w.heap.size ≤ k_) ∧ some k_ ≠ (u10 : Value).ownBlock ∧ some k_ ≠ (v167 : Value).ownBlock) (fun k_ => ((fun k_ => (P0_ k_ ∨ w.heap.size ≤ k_) ∧ some k_ ≠ (u10 : Value).ownBlock ∧ some k_ ≠ (v167 : Value).ownBlock)) k_ ∧ some k_ ≠ (v170 : Value).ownBlock) rfl rfl ?aP (fun _ hk => hk) ?aF ?aO ?aB ?aS ?aL ?_; (case aP => exact (k27_mkF _ _ (⟨1, 1, 65, 0, ([] : List Int), 3, 2⟩ : S27) (Nat.le_refl _) (Kd.F_nil _ _ _))); (case aB => exact (by repeat (first | (with_reducible first | exact HB.out | apply below_alloc | apply Go.Proofs.Ytnjbobboookfmaa.Ext.below_bytes | apply pw_below_drewN | apply below_drew1) | exact HB.out))); (case aF => exact (fun k_ hk => ⟨(.inr (Nat.le_trans (below_size (by repeat (first | (with_reducible first | exact HB.out | apply below_alloc | apply Go.Proofs.Ytnjbobboookfmaa.Ext.below_bytes | apply pw_below_drewN | apply below_drew1) | exact HB.out))) hk)), Kd.fresh' (Kd.R_lt (by (with_reducible repeat (first | apply Kd.R_alloc | apply Go.Proofs.Ytnjbobboookfmaa.Ext.R_bytes | apply Kd.R_drewN | apply Kd.R_drew)); exact HO_10.out)) k_ hk, Kd.fresh' (Kd.N_lt (by (with_reducible repeat (first | apply Kd.N_alloc | apply Go.Proofs.Ytnjbobboookfmaa.Ext.R_bytes | apply Kd.N_drewN | apply Kd.N_drew)); exact HO168.out)) k_ hk⟩)); (case aO => exact (by (with_reducible repeat (first | apply Kd.N_alloc | apply Go.Proofs.Ytnjbobboookfmaa.Ext.R_bytes | apply Kd.N_drewN | apply Kd.N_drew)); exact HO171.out)); (case aS => exact (below_size (by repeat (first | (with_reducible first | exact HB.out | apply below_alloc | apply Go.Proofs.Ytnjbobboookfmaa.Ext.below_bytes | apply pw_below_drewN | apply below_drew1) | exact HB.out)))); (case aL => have := LMc57.out; omega); intro v173 w90 ho hb hg hat; rw [← Ny172.out] at ho; have n0_ := Aside0.mk (Kd.V_afterv (ok := (fun k_ => (P0_ k_ ∨ w.heap.size ≤ k_) ∧ some k_ ≠ (u10 : Value).ownBlock ∧ some k_ ≠ (v167 : Value).ownBlock)) (by (with_reducible repeat (first | apply Kd.V_alloc | apply Go.Proofs.Ytnjbobboookfmaa.Ext.R_bytes | apply Kd.V_drewN | apply Kd.V_drew)); exact Kd.V_mono HO_0.out (fun _ hk => ⟨⟨hk.1.1.1, ⟨hk.1.1.2, hk.1.2⟩⟩, hk.2⟩)) hg hat); have n1_ := Aside0.mk (Kd.R_over' (by (with_reducible repeat (first | apply Kd.R_alloc | apply Go.Proofs.Ytnjbobboookfmaa.Ext.R_bytes | apply Kd.R_drewN | apply Kd.R_drew)); exact HO_10.out) (Kd.N_typed (by (with_reducible repeat (first | apply Kd.N_alloc | apply Go.Proofs.Ytnjbobboookfmaa.Ext.R_bytes | apply Kd.N_drewN | apply Kd.N_drew)); exact HO171.out)) (by decide) hg); have n2_ := Aside0.mk (Kd.N_afterv (ok := (fun k_ => (P0_ k_ ∨ w.heap.size ≤ k_) ∧ some k_ ≠ (u10 : Value).ownBlock)) (by (with_reducible repeat (first | apply Kd.N_alloc | apply Go.Proofs.Ytnjbobboookfmaa.Ext.R_bytes | apply Kd.N_drewN | apply Kd.N_drew)); exact HO168.out) hg hat); have n3_ := Aside0.mk (hb); have n4_ := Aside0.mk (ho); clear HO_0; clear HO_10; clear HO168; clear HB; clear HO171; have HO_0 := n0_; have HO_10 := n1_; have HO168 := n2_; have HB := n3_; have HO174 := n4_; clear n0_ n1_ n2_ n3_ n4_; clear ho hb hg hat; obtain ⟨Ao91, co91, eo91⟩ := Kd.N_slice HO168.out; subst eo91; obtain ⟨Ao92, co92, eo92⟩ := Kd.R_slice HO_10.out; subst eo92) | ((with_reducible refine gate_callee (f := 7) rfl ?_); refine goesL_ (some 133) rfl rfl Try.func7 (by kernel_rfl) rfl #[.slice Ao91 y166.length co91, .slice Ao92 x10_4.length co92] rfl (by (try simp only [List.map_toArray, List.map_cons, List.map_nil]); first | done | rfl | (simp only [List.length_drop, List.length_take]; rfl) | (simp [Act.eval, *]; done) | (simp [Act.eval, *]; unfold wrap64; omega)) ?_; (with_reducible refine (impl_TableRun.calls k4 _ _ y166 _ _ x10_4 t175 _ ?side1 ?side2 ?side3 ?side4 A58.out).mono ?_); (case side1 => repeat (first | exact (Kd.N_reads' HO168.out).2.2 | (with_reducible refine Kd.C_alloc ?_ _) | (with_reducible refine Kd.C_drewN ?_ _) | (with_reducible refine Kd.C_drew ?_))); (case side2 => exact (Kd.N_reads' HO168.out).2.1); (case side3 => repeat (first | exact (Kd.R_reads' HO_10.out).2.2 | (with_reducible refine Kd.C_alloc ?_ _) | (with_reducible refine Kd.C_drewN ?_ _) | (with_reducible refine Kd.C_drew ?_))); (case side4 => exact (Kd.R_reads' HO_10.out).2.1); rintro e w93 ⟨v176, rfl, ho0, hb⟩; refine ⟨_, rfl, ?_⟩; have n0_ := Aside0.mk (Kd.V_elder' (by (with_reducible repeat (first | apply Kd.V_alloc | apply Go.Proofs.Ytnjbobboookfmaa.Ext.R_bytes | apply Kd.V_drewN | apply Kd.V_drew)); exact HO_0.out) (Kd.R_base ho0) hb); have n1_ := Aside0.mk (Kd.R_below (by (with_reducible repeat (first | apply Kd.R_alloc | apply Go.Proofs.Ytnjbobboookfmaa.Ext.R_bytes | apply Kd.R_drewN | apply Kd.R_drew)); exact HO_10.out) hb); have n2_ := Aside0.mk (Kd.N_elder' (by (with_reducible repeat (first | apply Kd.N_alloc | apply Go.Proofs.Ytnjbobboookfmaa.Ext.R_bytes | apply Kd.N_drewN | apply Kd.N_drew)); exact HO168.out) (Kd.R_base ho0) hb); have n3_ := Aside0.mk (Kd.N_elder' (by (with_reducible repeat (first | apply Kd.N_alloc | apply Go.Proofs.Ytnjbobboookfmaa.Ext.R_bytes | apply Kd.N_drewN | apply Kd.N_drew)); exact HO174.out) (Kd.R_base ho0) hb); have n4_ := Aside0.mk (Kd.R_lower (Kd.R_newM (M := fun k_ => (w.heap.size ≤ k_)) ho0 (below_size (by repeat (first | (with_reducible first | exact HB.out | apply below_alloc | apply Go.Proofs.Ytnjbobboookfmaa.Ext.below_bytes | apply pw_below_drewN | apply below_drew1) | exact HB.out))) (fun k_ h_ => h_)) (below_size (by repeat (first | (with_reducible first | exact HB.out | apply below_alloc | apply Go.Proofs.Ytnjbobboookfmaa.Ext.below_bytes | apply pw_below_drewN | apply below_drew1) | exact HB.out)))); have n5_ := Aside0.mk (below_step (by repeat (first | (with_reducible first | exact HB.out | apply below_alloc | apply Go.Proofs.Ytnjbobboookfmaa.Ext.below_bytes | apply pw_below_drewN | apply below_drew1) | exact HB.out)) hb); clear HO_0; clear HO_10; clear HO168; clear HO174; clear HB; have HO_0 := n0_; have HO_10 := n1_; have HO168 := n2_; have HO174 := n3_; have HO177 := n4_; have HB := n5_; clear n0_ n1_ n2_ n3_ n4_ n5_; (try clear hb); (try clear hb2); (try clear hk); (try clear hi); (try clear ho0); obtain ⟨Ao94, co94, eo94⟩ := Kd.N_slice HO174.out; subst eo94) | ((with_reducible refine gate_callee (f := 8) rfl ?_); refine goesL_ (some 135) rfl rfl Try.func8 (by kernel_rfl) rfl #[.slice Ao94 y172.length co94] rfl (by (try simp only [List.map_toArray, List.map_cons, List.map_nil]); first | done | rfl | (simp only [List.length_drop, List.length_take]; rfl) | (simp [Act.eval, *]; done) | (simp [Act.eval, *]; unfold wrap64; omega)) ?_; (with_reducible refine (spec_TableOf.calls k4 _ _ y172 t178 _ ?side1 ?side2 A59.out).mono ?_); (case side1 => repeat (first | exact (Kd.N_reads' HO174.out).2.2 | (with_reducible refine Kd.C_alloc ?_ _) | (with_reducible refine Kd.C_drewN ?_ _) | (with_reducible refine Kd.C_drew ?_))); (case side2 => exact (Kd.N_reads' HO174.out).2.1); rintro e w95 ⟨v179, rfl, ho0, hb⟩; refine ⟨_, rfl, ?_⟩; have n0_ := Aside0.mk (Kd.V_elder' (by (with_reducible repeat (first | apply Kd.V_alloc | apply Go.Proofs.Ytnjbobboookfmaa.Ext.R_bytes | apply Kd.V_drewN | apply Kd.V_drew)); exact HO_0.out) (Kd.R_base ho0) hb); have n1_ := Aside0.mk (Kd.R_below (by (with_reducible repeat (first | apply Kd.R_alloc | apply Go.Proofs.Ytnjbobboookfmaa.Ext.R_bytes | apply Kd.R_drewN | apply Kd.R_drew)); exact HO_10.out) hb); have n2_ := Aside0.mk (Kd.N_elder' (by (with_reducible repeat (first | apply Kd.N_alloc | apply Go.Proofs.Ytnjbobboookfmaa.Ext.R_bytes | apply Kd.N_drewN | apply Kd.N_drew)); exact HO168.out) (Kd.R_base ho0) hb); have n3_ := Aside0.mk (Kd.N_elder' (by (with_reducible repeat (first | apply Kd.N_alloc | apply Go.Proofs.Ytnjbobboookfmaa.Ext.R_bytes | apply Kd.N_drewN | apply Kd.N_drew)); exact HO174.out) (Kd.R_base ho0) hb); have n4_ := Aside0.mk (Kd.R_below (by (with_reducible repeat (first | apply Kd.R_alloc | apply Go.Proofs.Ytnjbobboookfmaa.Ext.R_bytes | apply Kd.R_drewN | apply Kd.R_drew)); exact HO177.out) hb); have n5_ := Aside0.mk (Kd.R_lower (Kd.R_newM (M := fun k_ => (w.heap.size ≤ k_)) ho0 (below_size (by repeat (first | (with_reducible first | exact HB.out | apply below_alloc | apply Go.Proofs.Ytnjbobboookfmaa.Ext.below_bytes | apply pw_below_drewN | apply below_drew1) | exact HB.out))) (fun k_ h_ => h_)) (below_size (by repeat (first | (with_reducible first | exact HB.out | apply below_alloc | apply Go.Proofs.Ytnjbobboookfmaa.Ext.below_bytes | apply pw_below_drewN | apply below_drew1) | exact HB.out)))); have n6_ := Aside0.mk (below_step (by repeat (first | (with_reducible first | exact HB.out | apply below_alloc | apply Go.Proofs.Ytnjbobboookfmaa.Ext.below_bytes | apply pw_below_drewN | apply below_drew1) | exact HB.out)) hb); clear HO_0; clear HO_10; clear HO168; clear HO174; clear HO177; clear HB; have HO_0 := n0_; have HO_10 := n1_; have HO168 := n2_; have HO174 := n3_; have HO177 := n4_; have HO180 := n5_; have HB := n6_; clear n0_ n1_ n2_ n3_ n4_ n5_ n6_; (try clear hb); (try clear hb2); (try clear hk); (try clear hi); (try clear ho0); obtain ⟨Ao96, co96, eo96⟩ := Kd.R_slice HO177.out; subst eo96))
                                  go_ret
                                  exact ⟨by first | rfl | (simp [errW_none, errW_some] <;> rfl) | (simp [*, errW_none, errW_some] <;> rfl), by repeat (first | (with_reducible first | exact HB.out | apply below_alloc | apply Go.Proofs.Ytnjbobboookfmaa.Ext.below_bytes | apply pw_below_drewN | apply below_drew1) | exact HB.out)⟩
                              · rw [if_neg c57] at H
                                exact absurd H (by simp)
                            · rw [if_neg c56] at H
                              exact absurd H (by simp)
                          · rw [if_neg c55] at H
                            exact absurd H (by simp)

end Go.Proofs.Ytnjbobboookfmaa.PB
