-- Written by wip/pp.py, a program of this session, out of the translation. Not trusted: Lean checks it.
import Derived.Test.YtnjbobboookfmaaPEx0
import Derived.Test.YtnjbobboookfmaaPEx1
import Derived.Test.YtnjbobboookfmaaPEx2
namespace Go.Proofs.Ytnjbobboookfmaa.PE
open Go.RowKit Go.Proofs.YtnjbobboookfmaaW.PrintWords Go.Proofs.YtnjbobboookfmaaW.PrintLast Go.Proofs.YtnjbobboookfmaaW.PrintMore
attribute [local go_sem] max2_int min2_int max_two min_two max_three min_three max_four min_four   -- for this text's walks alone
attribute [local go_sem] Go.Proofs.Ytnjbobboookfmaa.Ext.wrap64_mod256 Go.Proofs.Ytnjbobboookfmaa.Ext.wrap64_mod32 Go.Proofs.Ytnjbobboookfmaa.Ext.i64_mod256 Go.Proofs.Ytnjbobboookfmaa.Ext.i64_mod32 Go.Proofs.Ytnjbobboookfmaa.Ext.i64_u8 Go.Proofs.Ytnjbobboookfmaa.Ext.w64_u8 Go.Proofs.Ytnjbobboookfmaa.Ext.i64_u32 Go.Proofs.Ytnjbobboookfmaa.Ext.w64_u32 
set_option linter.unusedVariables false
set_option linter.unusedSimpArgs false

/-! ### impl_AskParams: function 9 -/
mutual
def impl_AskParams.l0 : Nat → Int → List Int → List Int → Int → Int → Option (Int × (List (S48)))
  | 0, _, _, _, _, _ => none
  | k + 1, x1, x6, x17, x18, x19 => if x19 < x18 then (if 0 ≤ x19 then (if x19 < (x17.length : Int) then (if x6.length < 17592186044416 then (impl_AskParams.l0 k x1 (x6 ++ [rd x17 x19]) x17 x18 (wrap64 (x19 + 1))) else (none)) else (none)) else (none)) else (if (x6.length : Int) > 0 then ((xansi_ToParams.f k x6).bind fun t140 => (impl_AskParams.j1 k x1 ([] : List (S48)) x6 t140)) else (impl_AskParams.j1 k x1 ([] : List (S48)) x6 ([] : List Int)))
def impl_AskParams.j1 : Nat → Int → List (S48) → List Int → List Int → Option (Int × (List (S48)))
  | 0, _, _, _, _ => none
  | k + 1, x1, x5, x6, x9 => impl_AskParams.l1 k x1 x5 x6 x9 (-1)
def impl_AskParams.l1 : Nat → Int → List (S48) → List Int → List Int → Int → Option (Int × (List (S48)))
  | 0, _, _, _, _, _ => none
  | k + 1, x1, x5, x6, x9, x10 => if x10 ≤ (x6.length : Int) then ((xansi_Params_Param.f x9 x10 x1).bind fun bt143 => ((parser_Param.f x6 x10).bind fun t146 => (if x10 ≥ 0 then ((parser_HasMore.f x6 x10).bind fun t148 => ((parser_Subparams.f k x6 x10).bind fun t149 => (impl_AskParams.l2 k x1 x5 x6 x9 x10 t149 (t149.length : Int) 0 bt143.1 bt143.2.1 bt143.2.2 t146 t148 ([] : List Int)))) else ((parser_Subparams.f k x6 x10).bind fun t159 => (impl_AskParams.l2 k x1 x5 x6 x9 x10 t159 (t159.length : Int) 0 bt143.1 bt143.2.1 bt143.2.2 t146 false ([] : List Int)))))) else ((parser_Len.f k x6).bind fun t162 => (some (t162, x5)))
def impl_AskParams.l2 : Nat → Int → List (S48) → List Int → List Int → Int → List Int → Int → Int → Int → Bool → Bool → Int → Bool → List Int → Option (Int × (List (S48)))
  | 0, _, _, _, _, _, _, _, _, _, _, _, _, _, _ => none
  | k + 1, x1, x5, x6, x9, x10, x62, x63, x64, x148000, x148001, x148002, x148003, x148004, x148005 => if x64 < x63 then (if 0 ≤ x64 then (if x64 < (x62.length : Int) then (if x148005.length < 17592186044416 then (impl_AskParams.l2 k x1 x5 x6 x9 x10 x62 x63 (wrap64 (x64 + 1)) x148000 x148001 x148002 x148003 x148004 (x148005 ++ [rd x62 x64])) else (none)) else (none)) else (none)) else (if x5.length < 2513169434916 then (impl_AskParams.l1 k x1 (x5 ++ [(⟨x148000, x148001, x148002, x148003, x148004, x148005⟩ : S48)]) x6 x9 (wrap64 (x10 + 1))) else (none))
end
def impl_AskParams.f (k : Nat) (l0 : List Int) (a1 : Int) : Option (Int × (List (S48))) := impl_AskParams.l0 k a1 ([] : List Int) l0 (l0.length : Int) 0
theorem impl_AskParams.mono_l : ∀ k, (∀ y0 y1 y2 y3 y4, LeO (impl_AskParams.l0 k y0 y1 y2 y3 y4) (impl_AskParams.l0 (k + 1) y0 y1 y2 y3 y4)) ∧ (∀ y0 y1 y2 y3, LeO (impl_AskParams.j1 k y0 y1 y2 y3) (impl_AskParams.j1 (k + 1) y0 y1 y2 y3)) ∧ (∀ y0 y1 y2 y3 y4, LeO (impl_AskParams.l1 k y0 y1 y2 y3 y4) (impl_AskParams.l1 (k + 1) y0 y1 y2 y3 y4)) ∧ (∀ y0 y1 y2 y3 y4 y5 y6 y7 y8 y9 y10 y11 y12 y13, LeO (impl_AskParams.l2 k y0 y1 y2 y3 y4 y5 y6 y7 y8 y9 y10 y11 y12 y13) (impl_AskParams.l2 (k + 1) y0 y1 y2 y3 y4 y5 y6 y7 y8 y9 y10 y11 y12 y13))
  | 0 => ⟨fun _ _ _ _ _ r h => by simp [impl_AskParams.l0] at h, fun _ _ _ _ r h => by simp [impl_AskParams.j1] at h, fun _ _ _ _ _ r h => by simp [impl_AskParams.l1] at h, fun _ _ _ _ _ _ _ _ _ _ _ _ _ _ r h => by simp [impl_AskParams.l2] at h⟩
  | k + 1 => by
    obtain ⟨ih0, ih1, ih2, ih3⟩ := impl_AskParams.mono_l k
    refine ⟨?_, ?_, ?_, ?_⟩
    · intro y0 y1 y2 y3 y4
      unfold impl_AskParams.l0
      repeat' first
      | (with_reducible exact ih0 _ _ _ _ _)
      | (with_reducible exact ih1 _ _ _ _)
      | (with_reducible exact ih2 _ _ _ _ _)
      | (with_reducible exact ih3 _ _ _ _ _ _ _ _ _ _ _ _ _ _)
      | (with_reducible exact parser_Len.mono _ _)
      | (with_reducible exact parser_Subparams.mono _ _ _)
      | (with_reducible exact xansi_ToParams.mono _ _)
      | (with_reducible exact LeO.refl _)
      | (with_reducible exact LeO.none _)
      | (with_reducible refine LeO.ite ?_ ?_)
      | (with_reducible refine LeO.bind ?_ (fun _ => ?_))
      | exact ih0 _ _ _ _ _
      | exact ih1 _ _ _ _
      | exact ih2 _ _ _ _ _
      | exact ih3 _ _ _ _ _ _ _ _ _ _ _ _ _ _
      | exact parser_Len.mono _ _
      | exact parser_Subparams.mono _ _ _
      | exact xansi_ToParams.mono _ _
      | exact LeO.none _
      | refine LeO.ite ?_ ?_
      | refine LeO.bind ?_ (fun _ => ?_)
    · intro y0 y1 y2 y3
      unfold impl_AskParams.j1
      repeat' first
      | (with_reducible exact ih0 _ _ _ _ _)
      | (with_reducible exact ih1 _ _ _ _)
      | (with_reducible exact ih2 _ _ _ _ _)
      | (with_reducible exact ih3 _ _ _ _ _ _ _ _ _ _ _ _ _ _)
      | (with_reducible exact parser_Len.mono _ _)
      | (with_reducible exact parser_Subparams.mono _ _ _)
      | (with_reducible exact xansi_ToParams.mono _ _)
      | (with_reducible exact LeO.refl _)
      | (with_reducible exact LeO.none _)
      | (with_reducible refine LeO.ite ?_ ?_)
      | (with_reducible refine LeO.bind ?_ (fun _ => ?_))
      | exact ih0 _ _ _ _ _
      | exact ih1 _ _ _ _
      | exact ih2 _ _ _ _ _
      | exact ih3 _ _ _ _ _ _ _ _ _ _ _ _ _ _
      | exact parser_Len.mono _ _
      | exact parser_Subparams.mono _ _ _
      | exact xansi_ToParams.mono _ _
      | exact LeO.none _
      | refine LeO.ite ?_ ?_
      | refine LeO.bind ?_ (fun _ => ?_)
    · intro y0 y1 y2 y3 y4
      unfold impl_AskParams.l1
      repeat' first
      | (with_reducible exact ih0 _ _ _ _ _)
      | (with_reducible exact ih1 _ _ _ _)
      | (with_reducible exact ih2 _ _ _ _ _)
      | (with_reducible exact ih3 _ _ _ _ _ _ _ _ _ _ _ _ _ _)
      | (with_reducible exact parser_Len.mono _ _)
      | (with_reducible exact parser_Subparams.mono _ _ _)
      | (with_reducible exact xansi_ToParams.mono _ _)
      | (with_reducible exact LeO.refl _)
      | (with_reducible exact LeO.none _)
      | (with_reducible refine LeO.ite ?_ ?_)
      | (with_reducible refine LeO.bind ?_ (fun _ => ?_))
      | exact ih0 _ _ _ _ _
      | exact ih1 _ _ _ _
      | exact ih2 _ _ _ _ _
      | exact ih3 _ _ _ _ _ _ _ _ _ _ _ _ _ _
      | exact parser_Len.mono _ _
      | exact parser_Subparams.mono _ _ _
      | exact xansi_ToParams.mono _ _
      | exact LeO.none _
      | refine LeO.ite ?_ ?_
      | refine LeO.bind ?_ (fun _ => ?_)
    · intro y0 y1 y2 y3 y4 y5 y6 y7 y8 y9 y10 y11 y12 y13
      unfold impl_AskParams.l2
      repeat' first
      | (with_reducible exact ih0 _ _ _ _ _)
      | (with_reducible exact ih1 _ _ _ _)
      | (with_reducible exact ih2 _ _ _ _ _)
      | (with_reducible exact ih3 _ _ _ _ _ _ _ _ _ _ _ _ _ _)
      | (with_reducible exact parser_Len.mono _ _)
      | (with_reducible exact parser_Subparams.mono _ _ _)
      | (with_reducible exact xansi_ToParams.mono _ _)
      | (with_reducible exact LeO.refl _)
      | (with_reducible exact LeO.none _)
      | (with_reducible refine LeO.ite ?_ ?_)
      | (with_reducible refine LeO.bind ?_ (fun _ => ?_))
      | exact ih0 _ _ _ _ _
      | exact ih1 _ _ _ _
      | exact ih2 _ _ _ _ _
      | exact ih3 _ _ _ _ _ _ _ _ _ _ _ _ _ _
      | exact parser_Len.mono _ _
      | exact parser_Subparams.mono _ _ _
      | exact xansi_ToParams.mono _ _
      | exact LeO.none _
      | refine LeO.ite ?_ ?_
      | refine LeO.bind ?_ (fun _ => ?_)
theorem impl_AskParams.mono : ∀ a0 a1 k, LeO (impl_AskParams.f k a0 a1) (impl_AskParams.f (k + 1) a0 a1) := by
  intro a0 a1 k
  obtain ⟨ih0, ih1, ih2, ih3⟩ := impl_AskParams.mono_l k
  unfold impl_AskParams.f
  repeat' first
      | (with_reducible exact ih0 _ _ _ _ _)
      | (with_reducible exact ih1 _ _ _ _)
      | (with_reducible exact ih2 _ _ _ _ _)
      | (with_reducible exact ih3 _ _ _ _ _ _ _ _ _ _ _ _ _ _)
      | (with_reducible exact parser_Len.mono _ _)
      | (with_reducible exact parser_Subparams.mono _ _ _)
      | (with_reducible exact xansi_ToParams.mono _ _)
      | (with_reducible exact LeO.refl _)
      | (with_reducible exact LeO.none _)
      | (with_reducible refine LeO.ite ?_ ?_)
      | (with_reducible refine LeO.bind ?_ (fun _ => ?_))
      | exact ih0 _ _ _ _ _
      | exact ih1 _ _ _ _
      | exact ih2 _ _ _ _ _
      | exact ih3 _ _ _ _ _ _ _ _ _ _ _ _ _ _
      | exact parser_Len.mono _ _
      | exact parser_Subparams.mono _ _ _
      | exact xansi_ToParams.mono _ _
      | exact LeO.none _
      | refine LeO.ite ?_ ?_
      | refine LeO.bind ?_ (fun _ => ?_)
set_option maxHeartbeats 8000000 in
set_option maxRecDepth 100000 in
theorem impl_AskParams.calls (k : Nat) (A0 : Option Addr) (c0 : Nat) (l0 : List Int) (a1 : Int) (r1 : Int) (r2 : List (S48)) (w : World) (hr0 : Kd.C (Kd.int .i64) w A0 l0.length l0) (hc0 : l0.length ≤ c0) (h : impl_AskParams.f k l0 a1 = some (r1, r2)) :
    Calls Try.prog 9 #[.slice A0 l0.length c0, .int .i64 a1] w fun e w' => ∃ v1_ : Value, e = .returned (.tuple #[.int .i64 r1, v1_]) ∧ Kd.S k48 48 w' w.heap.size (fun _ => True) v1_ r2 ∧ Below w.heap.size w w' := by
  have hu48 := Try.underlying48
  have HR0 := Aside0.mk hr0
  have HC0 := Aside0.mk hc0
  clear hr0 hc0
  have HB := Aside0.mk (Below.refl w.heap.size w)
  have H : (impl_AskParams.l0 k a1 ([] : List Int) l0 (l0.length : Int) 0) = some (r1, r2) := h
  clear h
  have H' := Aside0.mk H
  clear H
  go_enter Try.func9, Try.ntmps9
  go_wp2
  go_loopg [6, 19] k (fun kq v6 v19 w' => ∃ (x6_1 : List Int) (x19_1 : Int), v19 = .int .i64 x19_1 ∧ Aside0 (impl_AskParams.l0 kq a1 x6_1 l0 (l0.length : Int) x19_1 = some (r1, r2)) ∧ Aside0 (kq ≤ k) ∧ Aside0 (Kd.R (Kd.int .i64) 3 w' w.heap.size (fun _ => True) v6 x6_1) ∧ Aside0 (Below w.heap.size w w'))
  case atStart => exact ⟨(([] : List Int)), (0), (by first | rfl | (simp; done) | (simp [*]; done)), H', ⟨Nat.le_refl _⟩, ⟨by first | exact Kd.R_nil _ _ _ _ _ | exact Kd.N_nil _ _ _ _ _ | exact Kd.V_nil _ _ _ _ _ | exact Kd.Q_nil _ _ _ _ _ | exact Kd.S_nil _ _ _ _ _⟩, ⟨by repeat (first | (with_reducible first | exact HB.out | apply below_alloc | apply Go.Proofs.Ytnjbobboookfmaa.Ext.below_bytes | apply pw_below_drewN | apply below_drew1) | exact HB.out)⟩⟩
  case round =>
    clear H'
    try clear p2
    obtain ⟨x6_1, x19_1, rfl, HA, HK1, HO_6, HB⟩ := hrel
    cases gk with
    | zero => exact absurd HA.out (by simp [impl_AskParams.l0])
    | succ k1 =>
      have H := HA.out
      clear HA
      simp only [impl_AskParams.l0] at H
      by_cases c3 : x19_1 < (l0.length : Int)
      · rw [if_pos c3] at H
        have c3b0 : decide (x19_1 < (l0.length : Int)) = true := decide_eq_true c3
        clear c3
        by_cases c4 : 0 ≤ x19_1
        · rw [if_pos c4] at H
          have c4b0 : decide (0 ≤ x19_1) = true := decide_eq_true c4
          clear c4
          by_cases c5 : x19_1 < (l0.length : Int)
          · rw [if_pos c5] at H
            have c5b0 : decide (x19_1 < (l0.length : Int)) = true := decide_eq_true c5
            clear c5
            by_cases c6 : x6_1.length < 17592186044416
            · rw [if_pos c6] at H
              have LMc6 := Aside0.mk c6
              clear c6
              obtain ⟨y137, hy137⟩ : ∃ y_ : List Int, y_ = (x6_1 ++ [rd l0 x19_1]) := ⟨_, rfl⟩
              replace H : (impl_AskParams.l0 k1 a1 y137 l0 (l0.length : Int) (wrap64 (x19_1 + 1))) = some (r1, r2) := by first | (rw [hy137]; with_reducible exact H) | (have H2_ := (Option.bind_some _ _).symm.trans H; rw [hy137]; with_reducible exact H2_) | (have H2_ := (Option.bind_some _ _).symm.trans H; with_reducible exact H2_) | with_reducible exact H | (rw [hy137]; exact H) | exact H
              have Ny137 := Aside0.mk hy137
              clear hy137
              have H' := Aside0.mk H
              clear H
              have p136 : 0 ≤ (x19_1 : Int) := of_decide_eq_true (by first | (with_reducible assumption) | assumption)
              have q136 : x19_1 < (l0.length : Int) := of_decide_eq_true (by first | (with_reducible assumption) | assumption)
              obtain ⟨ad136, e136, hx136_0⟩ := Kd.at_int HR0.out x19_1 p136 q136
              cases e136
              replace hx136_0 := (HB.out.cell (World.block_lt_of_cell? w _ hx136_0)).trans hx136_0
              replace p136 := eq_true p136
              replace q136 := eq_true q136
              go_wp2_with (first | ((with_reducible refine gate_builtin (b := .append) (xs := #[.tmp 23, .tmp 25]) rfl ?_); at_builtin; refine Kd.R_append (Kd.int .i64) (w0 := w) w.heap.size rfl (.tmp 23) (.tmp 25) 64 3 (.int .i64 0) 8 rfl Try.underlying64 info3 rfl (by decide) (by omega) u6 x6_1 (rd l0 x19_1) [.int .i64 (rd l0 x19_1)] (fun _ => True) (fun _ => False) rfl rfl ?aP (fun _ hk => hk.elim) ?aF ?aO ?aB ?aS ?aL ?_; (case aP => exact rfl); (case aB => exact (by repeat (first | (with_reducible first | exact HB.out | apply below_alloc | apply Go.Proofs.Ytnjbobboookfmaa.Ext.below_bytes | apply pw_below_drewN | apply below_drew1) | exact HB.out))); (case aF => exact (fun _ _ => trivial)); (case aO => exact (by (with_reducible repeat (first | apply Kd.R_alloc | apply Go.Proofs.Ytnjbobboookfmaa.Ext.R_bytes | apply Kd.R_drewN | apply Kd.R_drew)); exact HO_6.out)); (case aS => exact (below_size (by repeat (first | (with_reducible first | exact HB.out | apply below_alloc | apply Go.Proofs.Ytnjbobboookfmaa.Ext.below_bytes | apply pw_below_drewN | apply below_drew1) | exact HB.out)))); (case aL => have := LMc6.out; omega); intro v138 w7 ho hb hg hat; rw [← Ny137.out] at ho; have n0_ := Aside0.mk (hb); have n1_ := Aside0.mk (ho); clear HB; clear HO_6; have HB := n0_; have HO139 := n1_; clear n0_ n1_; clear ho hb hg hat))
              go_roundg k1
              case measure => have := HK1.out; omega
              case rel => exact ⟨(y137), (wrap64 (x19_1 + 1)), (by first | rfl | (simp; done) | (simp [*]; done)), H', ⟨by have := HK1.out; omega⟩, ⟨by (with_reducible repeat (first | apply Kd.R_alloc | apply Go.Proofs.Ytnjbobboookfmaa.Ext.R_bytes | apply Kd.R_drewN | apply Kd.R_drew)); exact HO139.out⟩, ⟨by repeat (first | (with_reducible first | exact HB.out | apply below_alloc | apply Go.Proofs.Ytnjbobboookfmaa.Ext.below_bytes | apply pw_below_drewN | apply below_drew1) | exact HB.out)⟩⟩
            · rw [if_neg c6] at H
              exact absurd H (by simp)
          · rw [if_neg c5] at H
            exact absurd H (by simp)
        · rw [if_neg c4] at H
          exact absurd H (by simp)
      · rw [if_neg c3] at H
        have c3b0 : decide (x19_1 < (l0.length : Int)) = false := decide_eq_false c3
        clear c3
        have HC8 := Aside0.mk H
        clear H
        obtain ⟨Ao9, co9, eo9⟩ := Kd.R_slice HO_6.out
        subst eo9
        go_upto_if 30 with (fail)
        go_cut [9] (fun v9 wc => ∃ (kq : Nat) (x9_7 : List Int), Aside0 (impl_AskParams.j1 kq a1 ([] : List (S48)) x6_1 x9_7 = some (r1, r2)) ∧ Aside0 (kq ≤ k1) ∧ Aside0 (Kd.S k48 48 wc w.heap.size (fun _ => True) (.slice none 0 0) ([] : List (S48))) ∧ Aside0 (Kd.R (Kd.int .i64) 3 wc w.heap.size (fun _ => True) (.slice Ao9 x6_1.length co9) x6_1) ∧ Aside0 (Kd.R (Kd.int .i64) 76 wc w.heap.size (fun _ => True) v9 x9_7) ∧ Aside0 (Below w.heap.size w wc))
        case first =>
          have H := HC8.out
          clear HC8
          by_cases c10 : (x6_1.length : Int) > 0
          · rw [if_pos c10] at H
            have c10b0 : decide (0 < (x6_1.length : Int)) = true := decide_eq_true c10
            have c10b1 : decide (0 < x6_1.length) = true := decide_eq_true (by omega)
            have c10bp : 0 < x6_1.length := of_decide_eq_true c10b1
            clear c10
            (first | rw [c10b0] | (simp only [i64_w, i32_w]; rw [c10b0]) | skip)
            replace H := Option.bind_eq_some_iff.mp H
            obtain ⟨t140, A110, H⟩ := H
            replace H : (impl_AskParams.j1 k1 a1 ([] : List (S48)) x6_1 t140) = some (r1, r2) := H
            have A11 := Aside0.mk A110
            clear A110
            have H' := Aside0.mk H
            clear H
            go_wp2_with (first | ((with_reducible refine gate_callee (f := 25) rfl ?_); refine goesL_ (some 32) rfl rfl Try.func25 (by kernel_rfl) rfl #[.slice Ao9 x6_1.length co9] rfl (by (try simp only [List.map_toArray, List.map_cons, List.map_nil]); first | done | rfl | (simp only [List.length_drop, List.length_take]; rfl) | (simp [Act.eval, *]; done) | (simp [Act.eval, *]; unfold wrap64; omega)) ?_; (with_reducible refine (xansi_ToParams.calls k1 _ _ x6_1 t140 _ ?side1 ?side2 A11.out).mono ?_); (case side1 => repeat (first | exact (Kd.R_reads' HO_6.out).2.2 | (with_reducible refine Kd.C_alloc ?_ _) | (with_reducible refine Kd.C_drewN ?_ _) | (with_reducible refine Kd.C_drew ?_))); (case side2 => exact (Kd.R_reads' HO_6.out).2.1); rintro e w12 ⟨v141, rfl, ho0, hb⟩; refine ⟨_, rfl, ?_⟩; have n0_ := Aside0.mk (Kd.R_below (by (with_reducible repeat (first | apply Kd.R_alloc | apply Go.Proofs.Ytnjbobboookfmaa.Ext.R_bytes | apply Kd.R_drewN | apply Kd.R_drew)); exact HO_6.out) hb); have n1_ := Aside0.mk (Kd.R_lower ho0 (below_size (by repeat (first | (with_reducible first | exact HB.out | apply below_alloc | apply Go.Proofs.Ytnjbobboookfmaa.Ext.below_bytes | apply pw_below_drewN | apply below_drew1) | exact HB.out)))); have n2_ := Aside0.mk (below_step (by repeat (first | (with_reducible first | exact HB.out | apply below_alloc | apply Go.Proofs.Ytnjbobboookfmaa.Ext.below_bytes | apply pw_below_drewN | apply below_drew1) | exact HB.out)) hb); clear HO_6; clear HB; have HO_6 := n0_; have HO142 := n1_; have HB := n2_; clear n0_ n1_ n2_; (try clear hb); (try clear hb2); (try clear hk); (try clear hi); (try clear ho0)))
            go_meet
            case rel => exact ⟨_, (t140), H', ⟨by have := HK1.out; first | omega | exact Nat.le_refl _⟩, ⟨by first | exact Kd.S_nil _ _ _ _ _ | exact Kd.N_nil _ _ _ _ _ | exact Kd.V_nil _ _ _ _ _ | exact Kd.Q_nil _ _ _ _ _ | exact Kd.R_nil _ _ _ _ _⟩, ⟨by (with_reducible repeat (first | apply Kd.R_alloc | apply Go.Proofs.Ytnjbobboookfmaa.Ext.R_bytes | apply Kd.R_drewN | apply Kd.R_drew)); exact HO_6.out⟩, ⟨by (with_reducible repeat (first | apply Kd.R_alloc | apply Go.Proofs.Ytnjbobboookfmaa.Ext.R_bytes | apply Kd.R_drewN | apply Kd.R_drew)); exact HO142.out⟩, ⟨by repeat (first | (with_reducible first | exact HB.out | apply below_alloc | apply Go.Proofs.Ytnjbobboookfmaa.Ext.below_bytes | apply pw_below_drewN | apply below_drew1) | exact HB.out)⟩⟩
          · rw [if_neg c10] at H
            have c10b0 : decide (0 < (x6_1.length : Int)) = false := decide_eq_false c10
            have c10b1 : decide (0 < x6_1.length) = false := decide_eq_false (by omega)
            have c10bp : ¬ 0 < x6_1.length := of_decide_eq_false c10b1
            clear c10
            (first | rw [c10b0] | (simp only [i64_w, i32_w]; rw [c10b0]) | skip)
            have H' := Aside0.mk H
            clear H
            go_wp2
            go_meet
            case rel => exact ⟨_, (([] : List Int)), H', ⟨by have := HK1.out; first | omega | exact Nat.le_refl _⟩, ⟨by first | exact Kd.S_nil _ _ _ _ _ | exact Kd.N_nil _ _ _ _ _ | exact Kd.V_nil _ _ _ _ _ | exact Kd.Q_nil _ _ _ _ _ | exact Kd.R_nil _ _ _ _ _⟩, ⟨by (with_reducible repeat (first | apply Kd.R_alloc | apply Go.Proofs.Ytnjbobboookfmaa.Ext.R_bytes | apply Kd.R_drewN | apply Kd.R_drew)); exact HO_6.out⟩, ⟨by first | exact Kd.R_nil _ _ _ _ _ | exact Kd.N_nil _ _ _ _ _ | exact Kd.V_nil _ _ _ _ _ | exact Kd.Q_nil _ _ _ _ _ | exact Kd.S_nil _ _ _ _ _⟩, ⟨by repeat (first | (with_reducible first | exact HB.out | apply below_alloc | apply Go.Proofs.Ytnjbobboookfmaa.Ext.below_bytes | apply pw_below_drewN | apply below_drew1) | exact HB.out)⟩⟩
        case rest =>
          clear HC8
          try clear c1
          try clear p1
          try clear q1
          try clear hx1
          try clear c2
          try clear p2
          try clear c3
          try clear c3b0
          try clear c4
          try clear c4b0
          try clear c5
          try clear c5b0
          try clear c6
          try clear p6
          try clear c9
          try clear c10
          try clear c10b0
          try clear c10b1
          try clear hx136_0
          try clear p136
          try clear p2
          try clear q136
          obtain ⟨kq, x9_7, HA, HJ7, HO_5, HO_6, HO_9, HB⟩ := hcut
          cases kq with
          | zero => exact absurd HA.out (by simp [impl_AskParams.j1])
          | succ kj7 =>
            have H := HA.out
            clear HA
            simp only [impl_AskParams.j1] at H
            have H' := Aside0.mk H
            clear H
            go_wp2
            go_loopg [5, 10] kj7 (fun kq v5 v10 w' => ∃ (x5_3 : List (S48)) (x10_3 : Int), v10 = .int .i64 x10_3 ∧ Aside0 (impl_AskParams.l1 kq a1 x5_3 x6_1 x9_7 x10_3 = some (r1, r2)) ∧ Aside0 (kq ≤ kj7) ∧ Aside0 (Kd.S k48 48 w' w.heap.size (fun _ => True) v5 x5_3) ∧ Aside0 (Kd.R (Kd.int .i64) 3 w' w.heap.size (fun _ => True) (.slice Ao9 x6_1.length co9) x6_1) ∧ Aside0 (Kd.R (Kd.int .i64) 76 w' w.heap.size (fun _ => True) u9 x9_7) ∧ Aside0 (Below w.heap.size w w'))
            case atStart => exact ⟨(([] : List (S48))), ((-1)), (by first | rfl | (simp; done) | (simp [*]; done)), H', ⟨Nat.le_refl _⟩, ⟨by (with_reducible repeat (first | apply Kd.S_alloc | apply Go.Proofs.Ytnjbobboookfmaa.Ext.R_bytes | apply Kd.S_drewN | apply Kd.S_drew)); exact HO_5.out⟩, ⟨by (with_reducible repeat (first | apply Kd.R_alloc | apply Go.Proofs.Ytnjbobboookfmaa.Ext.R_bytes | apply Kd.R_drewN | apply Kd.R_drew)); exact HO_6.out⟩, ⟨by (with_reducible repeat (first | apply Kd.R_alloc | apply Go.Proofs.Ytnjbobboookfmaa.Ext.R_bytes | apply Kd.R_drewN | apply Kd.R_drew)); exact HO_9.out⟩, ⟨by repeat (first | (with_reducible first | exact HB.out | apply below_alloc | apply Go.Proofs.Ytnjbobboookfmaa.Ext.below_bytes | apply pw_below_drewN | apply below_drew1) | exact HB.out)⟩⟩
            case round =>
              clear H'
              try clear c1
              try clear p1
              try clear q1
              try clear hx1
              try clear c2
              try clear p2
              try clear c3
              try clear c3b0
              try clear c4
              try clear c4b0
              try clear c5
              try clear c5b0
              try clear c6
              try clear p6
              try clear c9
              try clear c10
              try clear c10b0
              try clear c10b1
              try clear hx136_0
              try clear p1
              try clear p136
              try clear p2
              try clear p6
              try clear q1
              try clear q136
              obtain ⟨x5_3, x10_3, rfl, HA, HK3, HO_5, HO_6, HO_9, HB⟩ := hrel
              cases gk with
              | zero => exact absurd HA.out (by simp [impl_AskParams.l1])
              | succ k3 =>
                have H := HA.out
                clear HA
                simp only [impl_AskParams.l1] at H
                by_cases c13 : x10_3 ≤ (x6_1.length : Int)
                · rw [if_pos c13] at H
                  have c13b0 : decide (x10_3 ≤ (x6_1.length : Int)) = true := decide_eq_true c13
                  clear c13
                  replace H := Option.bind_eq_some_iff.mp H
                  obtain ⟨⟨t143, t144, t145⟩, A140, H⟩ := H
                  replace H : ((parser_Param.f x6_1 x10_3).bind fun t146 => (if x10_3 ≥ 0 then ((parser_HasMore.f x6_1 x10_3).bind fun t148 => ((parser_Subparams.f k3 x6_1 x10_3).bind fun t149 => (impl_AskParams.l2 k3 a1 x5_3 x6_1 x9_7 x10_3 t149 (t149.length : Int) 0 t143 t144 t145 t146 t148 ([] : List Int)))) else ((parser_Subparams.f k3 x6_1 x10_3).bind fun t159 => (impl_AskParams.l2 k3 a1 x5_3 x6_1 x9_7 x10_3 t159 (t159.length : Int) 0 t143 t144 t145 t146 false ([] : List Int))))) = some (r1, r2) := H
                  have A14 := Aside0.mk A140
                  clear A140
                  replace H := Option.bind_eq_some_iff.mp H
                  obtain ⟨t146, A150, H⟩ := H
                  replace H : (if x10_3 ≥ 0 then ((parser_HasMore.f x6_1 x10_3).bind fun t148 => ((parser_Subparams.f k3 x6_1 x10_3).bind fun t149 => (impl_AskParams.l2 k3 a1 x5_3 x6_1 x9_7 x10_3 t149 (t149.length : Int) 0 t143 t144 t145 t146 t148 ([] : List Int)))) else ((parser_Subparams.f k3 x6_1 x10_3).bind fun t159 => (impl_AskParams.l2 k3 a1 x5_3 x6_1 x9_7 x10_3 t159 (t159.length : Int) 0 t143 t144 t145 t146 false ([] : List Int)))) = some (r1, r2) := H
                  have A15 := Aside0.mk A150
                  clear A150
                  by_cases c16 : x10_3 ≥ 0
                  · rw [if_pos c16] at H
                    have c16b0 : decide (0 ≤ x10_3) = true := decide_eq_true c16
                    clear c16
                    replace H := Option.bind_eq_some_iff.mp H
                    obtain ⟨t148, A170, H⟩ := H
                    replace H : ((parser_Subparams.f k3 x6_1 x10_3).bind fun t149 => (impl_AskParams.l2 k3 a1 x5_3 x6_1 x9_7 x10_3 t149 (t149.length : Int) 0 t143 t144 t145 t146 t148 ([] : List Int))) = some (r1, r2) := H
                    have A17 := Aside0.mk A170
                    clear A170
                    replace H := Option.bind_eq_some_iff.mp H
                    obtain ⟨t149, A180, H⟩ := H
                    replace H : (impl_AskParams.l2 k3 a1 x5_3 x6_1 x9_7 x10_3 t149 (t149.length : Int) 0 t143 t144 t145 t146 t148 ([] : List Int)) = some (r1, r2) := H
                    have A18 := Aside0.mk A180
                    clear A180
                    have H' := Aside0.mk H
                    clear H
                    obtain ⟨Ao19, co19, eo19⟩ := Kd.R_slice HO_9.out
                    subst eo19
                    go_wp2_with (first | ((with_reducible refine gate_callee (f := 26) rfl ?_); refine goesL_ (some 43) rfl rfl Try.func26 (by kernel_rfl) rfl #[.slice Ao19 x9_7.length co19, .int .i64 x10_3, .int .i64 a1] rfl (by (try simp only [List.map_toArray, List.map_cons, List.map_nil]); first | done | rfl | (simp only [List.length_drop, List.length_take]; rfl) | (simp [Act.eval, *]; done) | (simp [Act.eval, *]; unfold wrap64; omega)) ?_; (with_reducible refine (xansi_Params_Param.calls _ _ x9_7 x10_3 a1 t143 t144 t145 _ ?side1 ?side2 A14.out).mono ?_); (case side1 => repeat (first | exact (Kd.R_reads' HO_9.out).2.2 | (with_reducible refine Kd.C_alloc ?_ _) | (with_reducible refine Kd.C_drewN ?_ _) | (with_reducible refine Kd.C_drew ?_))); (case side2 => exact (Kd.R_reads' HO_9.out).2.1); rintro e w' ⟨rfl, ⟨nd, rfl⟩⟩; refine ⟨_, rfl, ?_⟩; (try (rw [drewN_self wr]; generalize hq_ : World.drewN wr _ = wr; have n0_ : Aside0 (Kd.S k48 48 wr w.heap.size (fun _ => True) u5 x5_3) := ⟨by rw [← hq_]; exact (by (with_reducible repeat (first | apply Kd.S_alloc | apply Go.Proofs.Ytnjbobboookfmaa.Ext.R_bytes | apply Kd.S_drewN | apply Kd.S_drew)); exact HO_5.out)⟩; have n1_ : Aside0 (Kd.R (Kd.int .i64) 3 wr w.heap.size (fun _ => True) (.slice Ao9 x6_1.length co9) x6_1) := ⟨by rw [← hq_]; exact (by (with_reducible repeat (first | apply Kd.R_alloc | apply Go.Proofs.Ytnjbobboookfmaa.Ext.R_bytes | apply Kd.R_drewN | apply Kd.R_drew)); exact HO_6.out)⟩; have n2_ : Aside0 (Kd.R (Kd.int .i64) 76 wr w.heap.size (fun _ => True) (.slice Ao19 x9_7.length co19) x9_7) := ⟨by rw [← hq_]; exact (by (with_reducible repeat (first | apply Kd.R_alloc | apply Go.Proofs.Ytnjbobboookfmaa.Ext.R_bytes | apply Kd.R_drewN | apply Kd.R_drew)); exact HO_9.out)⟩; have n3_ : Aside0 (Below w.heap.size w wr) := ⟨by rw [← hq_]; exact (by repeat (first | (with_reducible first | exact HB.out | apply below_alloc | apply Go.Proofs.Ytnjbobboookfmaa.Ext.below_bytes | apply pw_below_drewN | apply below_drew1) | exact HB.out))⟩; clear HO_5 HO_6 HO_9 HB hq_; have HO_5 := n0_; have HO_6 := n1_; have HO_9 := n2_; have HB := n3_; clear n0_ n1_ n2_ n3_))) | ((with_reducible refine gate_callee (f := 27) rfl ?_); refine goesL_ (some 52) rfl rfl Try.func27 (by kernel_rfl) rfl #[.slice Ao9 x6_1.length co9, .int .i64 x10_3] rfl (by (try simp only [List.map_toArray, List.map_cons, List.map_nil]); first | done | rfl | (simp only [List.length_drop, List.length_take]; rfl) | (simp [Act.eval, *]; done) | (simp [Act.eval, *]; unfold wrap64; omega)) ?_; (with_reducible refine (parser_Param.calls _ _ x6_1 x10_3 t146 _ ?side1 ?side2 A15.out).mono ?_); (case side1 => repeat (first | exact (Kd.R_reads' HO_6.out).2.2 | (with_reducible refine Kd.C_alloc ?_ _) | (with_reducible refine Kd.C_drewN ?_ _) | (with_reducible refine Kd.C_drew ?_))); (case side2 => exact (Kd.R_reads' HO_6.out).2.1); rintro e w' ⟨rfl, ⟨nd, rfl⟩⟩; refine ⟨_, rfl, ?_⟩; (try (rw [drewN_self wr]; generalize hq_ : World.drewN wr _ = wr; have n0_ : Aside0 (Kd.S k48 48 wr w.heap.size (fun _ => True) u5 x5_3) := ⟨by rw [← hq_]; exact (by (with_reducible repeat (first | apply Kd.S_alloc | apply Go.Proofs.Ytnjbobboookfmaa.Ext.R_bytes | apply Kd.S_drewN | apply Kd.S_drew)); exact HO_5.out)⟩; have n1_ : Aside0 (Kd.R (Kd.int .i64) 3 wr w.heap.size (fun _ => True) (.slice Ao9 x6_1.length co9) x6_1) := ⟨by rw [← hq_]; exact (by (with_reducible repeat (first | apply Kd.R_alloc | apply Go.Proofs.Ytnjbobboookfmaa.Ext.R_bytes | apply Kd.R_drewN | apply Kd.R_drew)); exact HO_6.out)⟩; have n2_ : Aside0 (Kd.R (Kd.int .i64) 76 wr w.heap.size (fun _ => True) (.slice Ao19 x9_7.length co19) x9_7) := ⟨by rw [← hq_]; exact (by (with_reducible repeat (first | apply Kd.R_alloc | apply Go.Proofs.Ytnjbobboookfmaa.Ext.R_bytes | apply Kd.R_drewN | apply Kd.R_drew)); exact HO_9.out)⟩; have n3_ : Aside0 (Below w.heap.size w wr) := ⟨by rw [← hq_]; exact (by repeat (first | (with_reducible first | exact HB.out | apply below_alloc | apply Go.Proofs.Ytnjbobboookfmaa.Ext.below_bytes | apply pw_below_drewN | apply below_drew1) | exact HB.out))⟩; clear HO_5 HO_6 HO_9 HB hq_; have HO_5 := n0_; have HO_6 := n1_; have HO_9 := n2_; have HB := n3_; clear n0_ n1_ n2_ n3_))) | ((with_reducible refine gate_dst (N := 14) rfl ?_); refine box_event ?hg (N := 14) ?hd (cs := #[.int .i64 0, .bool false, .bool false, .int .i64 0, .bool false, .slice none 0 0]) (t := 48) ?hr ?_; (case hd => rfl); (case hg => rfl); (case hr => first | (go_simp; done) | (go_simp; rfl)); intro gb147 hg w20 hbox hb; have n0_ := Aside0.mk (Kd.S_below (Kd.S_elderB (by (with_reducible repeat (first | apply Kd.S_alloc | apply Go.Proofs.Ytnjbobboookfmaa.Ext.R_bytes | apply Kd.S_drewN | apply Kd.S_drew)); exact HO_5.out) gb147 (Nat.le_of_eq hg.symm)) hb); have n1_ := Aside0.mk (Kd.R_below (by (with_reducible repeat (first | apply Kd.R_alloc | apply Go.Proofs.Ytnjbobboookfmaa.Ext.R_bytes | apply Kd.R_drewN | apply Kd.R_drew)); exact HO_6.out) hb); have n2_ := Aside0.mk (Kd.R_below (by (with_reducible repeat (first | apply Kd.R_alloc | apply Go.Proofs.Ytnjbobboookfmaa.Ext.R_bytes | apply Kd.R_drewN | apply Kd.R_drew)); exact HO_9.out) hb); have n3_ := Aside0.mk (below_step (by repeat (first | (with_reducible first | exact HB.out | apply below_alloc | apply Go.Proofs.Ytnjbobboookfmaa.Ext.below_bytes | apply pw_below_drewN | apply below_drew1) | exact HB.out)) hb); have n4_ := Aside0.mk (hbox); have n5_ := Aside0.mk ((by rw [hg]; exact (below_size (by repeat (first | (with_reducible first | exact HB.out | apply below_alloc | apply Go.Proofs.Ytnjbobboookfmaa.Ext.below_bytes | apply pw_below_drewN | apply below_drew1) | exact HB.out))) : w.heap.size ≤ gb147)); have n6_ := Aside0.mk ((by rw [hg]; exact (below_size (by repeat (first | (with_reducible first | exact HB.out | apply below_alloc | apply Go.Proofs.Ytnjbobboookfmaa.Ext.below_bytes | apply pw_below_drewN | apply below_drew1) | exact HB.out))) : w.heap.size ≤ gb147)); clear HO_5; clear HO_6; clear HO_9; clear HB; have HO_5 := n0_; have HO_6 := n1_; have HO_9 := n2_; have HB := n3_; have BK147 := n4_; have GW147 := n5_; have GE147 := n6_; clear n0_ n1_ n2_ n3_ n4_ n5_ n6_; clear hb hbox hg; have hcz21_0 : w20.cell? ⟨gb147, 0, none⟩ = some (.int .i64 0) := (blk_cell BK147.out 0).trans rfl; have hcz21_1 : w20.cell? ⟨gb147, 1, none⟩ = some (.bool false) := (blk_cell BK147.out 1).trans rfl; have hcz21_2 : w20.cell? ⟨gb147, 2, none⟩ = some (.bool false) := (blk_cell BK147.out 2).trans rfl; have hcz21_3 : w20.cell? ⟨gb147, 3, none⟩ = some (.int .i64 0) := (blk_cell BK147.out 3).trans rfl; have hcz21_4 : w20.cell? ⟨gb147, 4, none⟩ = some (.bool false) := (blk_cell BK147.out 4).trans rfl; have hcz21_5 : w20.cell? ⟨gb147, 5, none⟩ = some (.slice none 0 0) := (blk_cell BK147.out 5).trans rfl; have hfz21_0 := blk_frozen BK147.out 0; have hfz21_1 := blk_frozen BK147.out 1; have hfz21_2 := blk_frozen BK147.out 2; have hfz21_3 := blk_frozen BK147.out 3; have hfz21_4 := blk_frozen BK147.out 4; have hfz21_5 := blk_frozen BK147.out 5) | ((with_reducible refine gate_callee (f := 28) rfl ?_); refine goesL_ (some 58) rfl rfl Try.func28 (by kernel_rfl) rfl #[.slice Ao9 x6_1.length co9, .int .i64 x10_3] rfl (by (try simp only [List.map_toArray, List.map_cons, List.map_nil]); first | done | rfl | (simp only [List.length_drop, List.length_take]; rfl) | (simp [Act.eval, *]; done) | (simp [Act.eval, *]; unfold wrap64; omega)) ?_; (with_reducible refine (parser_HasMore.calls _ _ x6_1 x10_3 t148 _ ?side1 ?side2 A17.out).mono ?_); (case side1 => refine (Kd.R_reads' (e := 3) (base := w.heap.size) (ok := fun k_ => True) (n := x6_1.length) (c := co9) ?_).2.2; exact (by (with_reducible repeat (first | apply Kd.R_alloc | apply Go.Proofs.Ytnjbobboookfmaa.Ext.R_bytes | apply Kd.R_drewN | apply Kd.R_drew)); exact (Kd.R_mono (Kd.R_far (p := ⟨gb147, 5, none⟩) (Kd.R_far (p := ⟨gb147, 4, none⟩) (Kd.R_far (p := ⟨gb147, 3, none⟩) (Kd.R_far (p := ⟨gb147, 2, none⟩) (Kd.R_far (p := ⟨gb147, 1, none⟩) (Kd.R_far (p := ⟨gb147, 0, none⟩) (Kd.R_types HO_6.out BK147.out (by decide)) (fun _ hk => hk.2) (.int .i64 t143)) (fun _ hk => hk.2) (.bool t144)) (fun _ hk => hk.2) (.bool t145)) (fun _ hk => hk.2) (.int .i64 t146)) (fun _ hk => hk.2) (.bool false)) (fun _ hk => hk.2) (.slice none 0 0)) (fun _ h_ => h_.1)))); (case side2 => exact (Kd.R_reads' HO_6.out).2.1); rintro e w' ⟨rfl, ⟨nd, rfl⟩⟩; refine ⟨_, rfl, ?_⟩) | ((with_reducible refine gate_callee (f := 29) rfl ?_); refine goesL_ (some 62) rfl rfl Try.func29 (by kernel_rfl) rfl #[.slice Ao9 x6_1.length co9, .int .i64 x10_3] rfl (by (try simp only [List.map_toArray, List.map_cons, List.map_nil]); first | done | rfl | (simp only [List.length_drop, List.length_take]; rfl) | (simp [Act.eval, *]; done) | (simp [Act.eval, *]; unfold wrap64; omega)) ?_; (with_reducible refine (parser_Subparams.calls k3 _ _ x6_1 x10_3 t149 _ ?side1 ?side2 A18.out).mono ?_); (case side1 => refine (Kd.R_reads' (e := 3) (base := w.heap.size) (ok := fun k_ => True) (n := x6_1.length) (c := co9) ?_).2.2; exact (by (with_reducible repeat (first | apply Kd.R_alloc | apply Go.Proofs.Ytnjbobboookfmaa.Ext.R_bytes | apply Kd.R_drewN | apply Kd.R_drew)); exact (Kd.R_mono (Kd.R_far (p := ⟨gb147, 4, none⟩) (Kd.R_drewN (Kd.R_far (p := ⟨gb147, 5, none⟩) (Kd.R_far (p := ⟨gb147, 4, none⟩) (Kd.R_far (p := ⟨gb147, 3, none⟩) (Kd.R_far (p := ⟨gb147, 2, none⟩) (Kd.R_far (p := ⟨gb147, 1, none⟩) (Kd.R_far (p := ⟨gb147, 0, none⟩) (Kd.R_types HO_6.out BK147.out (by decide)) (fun _ hk => hk.2) (.int .i64 t143)) (fun _ hk => hk.2) (.bool t144)) (fun _ hk => hk.2) (.bool t145)) (fun _ hk => hk.2) (.int .i64 t146)) (fun _ hk => hk.2) (.bool false)) (fun _ hk => hk.2) (.slice none 0 0)) _) (fun _ hk => hk.2) (.bool t148)) (fun _ h_ => h_.1)))); (case side2 => exact (Kd.R_reads' HO_6.out).2.1); rintro e w22 ⟨v150, rfl, ho0, hb⟩; refine ⟨_, rfl, ?_⟩; have n0_ := Aside0.mk (Kd.S_below (by (with_reducible repeat (first | apply Kd.S_alloc | apply Go.Proofs.Ytnjbobboookfmaa.Ext.R_bytes | apply Kd.S_drewN | apply Kd.S_drew)); exact (Kd.S_mono (Kd.S_far (p := ⟨gb147, 4, none⟩) (Kd.S_drewN (Kd.S_far (p := ⟨gb147, 5, none⟩) (Kd.S_far (p := ⟨gb147, 4, none⟩) (Kd.S_far (p := ⟨gb147, 3, none⟩) (Kd.S_far (p := ⟨gb147, 2, none⟩) (Kd.S_far (p := ⟨gb147, 1, none⟩) (Kd.S_far (p := ⟨gb147, 0, none⟩) (Kd.S_mono HO_5.out (fun k_ hk => (⟨hk, hk.2⟩ : _ ∧ k_ ≠ gb147))) (fun _ hk => hk.2) (.int .i64 t143)) (fun _ hk => hk.2) (.bool t144)) (fun _ hk => hk.2) (.bool t145)) (fun _ hk => hk.2) (.int .i64 t146)) (fun _ hk => hk.2) (.bool false)) (fun _ hk => hk.2) (.slice none 0 0)) _) (fun _ hk => hk.2) (.bool t148)) (fun _ h_ => h_.1))) hb); have n1_ := Aside0.mk (Kd.R_elder' (by (with_reducible repeat (first | apply Kd.R_alloc | apply Go.Proofs.Ytnjbobboookfmaa.Ext.R_bytes | apply Kd.R_drewN | apply Kd.R_drew)); exact (Kd.R_mono (Kd.R_far (p := ⟨gb147, 4, none⟩) (Kd.R_drewN (Kd.R_far (p := ⟨gb147, 5, none⟩) (Kd.R_far (p := ⟨gb147, 4, none⟩) (Kd.R_far (p := ⟨gb147, 3, none⟩) (Kd.R_far (p := ⟨gb147, 2, none⟩) (Kd.R_far (p := ⟨gb147, 1, none⟩) (Kd.R_far (p := ⟨gb147, 0, none⟩) (Kd.R_types HO_6.out BK147.out (by decide)) (fun _ hk => hk.2) (.int .i64 t143)) (fun _ hk => hk.2) (.bool t144)) (fun _ hk => hk.2) (.bool t145)) (fun _ hk => hk.2) (.int .i64 t146)) (fun _ hk => hk.2) (.bool false)) (fun _ hk => hk.2) (.slice none 0 0)) _) (fun _ hk => hk.2) (.bool t148)) (fun _ h_ => h_.1))) (Kd.R_base ho0) hb); have n2_ := Aside0.mk (Kd.R_below (by (with_reducible repeat (first | apply Kd.R_alloc | apply Go.Proofs.Ytnjbobboookfmaa.Ext.R_bytes | apply Kd.R_drewN | apply Kd.R_drew)); exact (Kd.R_mono (Kd.R_far (p := ⟨gb147, 4, none⟩) (Kd.R_drewN (Kd.R_far (p := ⟨gb147, 5, none⟩) (Kd.R_far (p := ⟨gb147, 4, none⟩) (Kd.R_far (p := ⟨gb147, 3, none⟩) (Kd.R_far (p := ⟨gb147, 2, none⟩) (Kd.R_far (p := ⟨gb147, 1, none⟩) (Kd.R_far (p := ⟨gb147, 0, none⟩) (Kd.R_types HO_9.out BK147.out (by decide)) (fun _ hk => hk.2) (.int .i64 t143)) (fun _ hk => hk.2) (.bool t144)) (fun _ hk => hk.2) (.bool t145)) (fun _ hk => hk.2) (.int .i64 t146)) (fun _ hk => hk.2) (.bool false)) (fun _ hk => hk.2) (.slice none 0 0)) _) (fun _ hk => hk.2) (.bool t148)) (fun _ h_ => h_.1))) hb); have n3_ := Aside0.mk (Kd.R_lower (Kd.R_new' ho0 (Kd.R_lt (by (with_reducible repeat (first | apply Kd.R_alloc | apply Go.Proofs.Ytnjbobboookfmaa.Ext.R_bytes | apply Kd.R_drewN | apply Kd.R_drew)); exact (Kd.R_mono (Kd.R_far (p := ⟨gb147, 4, none⟩) (Kd.R_drewN (Kd.R_far (p := ⟨gb147, 5, none⟩) (Kd.R_far (p := ⟨gb147, 4, none⟩) (Kd.R_far (p := ⟨gb147, 3, none⟩) (Kd.R_far (p := ⟨gb147, 2, none⟩) (Kd.R_far (p := ⟨gb147, 1, none⟩) (Kd.R_far (p := ⟨gb147, 0, none⟩) (Kd.R_types HO_6.out BK147.out (by decide)) (fun _ hk => hk.2) (.int .i64 t143)) (fun _ hk => hk.2) (.bool t144)) (fun _ hk => hk.2) (.bool t145)) (fun _ hk => hk.2) (.int .i64 t146)) (fun _ hk => hk.2) (.bool false)) (fun _ hk => hk.2) (.slice none 0 0)) _) (fun _ hk => hk.2) (.bool t148)) (fun _ h_ => h_.1))))) (below_size (by repeat (first | (with_reducible first | exact HB.out | apply below_alloc | apply Go.Proofs.Ytnjbobboookfmaa.Ext.below_bytes | apply pw_below_drewN | apply below_drew1 | refine below_set ?_ GE147.out) | exact HB.out)))); have n4_ := Aside0.mk (blk_below (g := gb147) (o := .cells #[.int .i64 t143, .bool t144, .bool t145, .int .i64 t146, .bool t148, .slice none 0 0] 48 (0, 0)) (by (with_reducible repeat (first | refine blk_drewN ?_ _ | refine blk_drew ?_ | refine blk_alloc ?_ _)); refine blk_put (cs := #[.int .i64 t143, .bool t144, .bool t145, .int .i64 t146, .bool false, .slice none 0 0]) ?_ 4 _ rfl; (with_reducible repeat (first | refine blk_drewN ?_ _ | refine blk_drew ?_ | refine blk_alloc ?_ _)); refine blk_put (cs := #[.int .i64 t143, .bool t144, .bool t145, .int .i64 t146, .bool false, .slice none 0 0]) ?_ 5 _ rfl; (with_reducible repeat (first | refine blk_drewN ?_ _ | refine blk_drew ?_ | refine blk_alloc ?_ _)); refine blk_put (cs := #[.int .i64 t143, .bool t144, .bool t145, .int .i64 t146, .bool false, .slice none 0 0]) ?_ 4 _ rfl; (with_reducible repeat (first | refine blk_drewN ?_ _ | refine blk_drew ?_ | refine blk_alloc ?_ _)); refine blk_put (cs := #[.int .i64 t143, .bool t144, .bool t145, .int .i64 0, .bool false, .slice none 0 0]) ?_ 3 _ rfl; (with_reducible repeat (first | refine blk_drewN ?_ _ | refine blk_drew ?_ | refine blk_alloc ?_ _)); refine blk_put (cs := #[.int .i64 t143, .bool t144, .bool false, .int .i64 0, .bool false, .slice none 0 0]) ?_ 2 _ rfl; (with_reducible repeat (first | refine blk_drewN ?_ _ | refine blk_drew ?_ | refine blk_alloc ?_ _)); refine blk_put (cs := #[.int .i64 t143, .bool false, .bool false, .int .i64 0, .bool false, .slice none 0 0]) ?_ 1 _ rfl; (with_reducible repeat (first | refine blk_drewN ?_ _ | refine blk_drew ?_ | refine blk_alloc ?_ _)); refine blk_put (cs := #[.int .i64 0, .bool false, .bool false, .int .i64 0, .bool false, .slice none 0 0]) ?_ 0 _ rfl; (with_reducible repeat (first | refine blk_drewN ?_ _ | refine blk_drew ?_ | refine blk_alloc ?_ _)); exact BK147.out) hb); have n5_ := Aside0.mk (below_step (by repeat (first | (with_reducible first | exact HB.out | apply below_alloc | apply Go.Proofs.Ytnjbobboookfmaa.Ext.below_bytes | apply pw_below_drewN | apply below_drew1 | refine below_set ?_ GE147.out) | exact HB.out)) hb); clear HO_5; clear HO_6; clear HO_9; clear BK147; clear HB; have HO_5 := n0_; have HO_6 := n1_; have HO_9 := n2_; have HO151 := n3_; have BK147 := n4_; have HB := n5_; clear n0_ n1_ n2_ n3_ n4_ n5_; (try clear hb); (try clear hb2); (try clear hk); (try clear hi); (try clear ho0); obtain ⟨Ao23, co23, eo23⟩ := Kd.R_slice HO151.out; subst eo23))
                    go_loopg [64] k3 (fun kq v64 w' => ∃ (x64_4 : Int) (x148005_4 : List Int) (u148005 : Value), v64 = .int .i64 x64_4 ∧ Aside0 (impl_AskParams.l2 kq a1 x5_3 x6_1 x9_7 x10_3 t149 (t149.length : Int) x64_4 t143 t144 t145 t146 t148 x148005_4 = some (r1, r2)) ∧ Aside0 (kq ≤ k3) ∧ Aside0 (Kd.S k48 48 w' w.heap.size (fun k_ => some k_ ≠ (u148005 : Value).ownBlock ∧ k_ ≠ gb147) u5 x5_3) ∧ Aside0 (Kd.R (Kd.int .i64) 3 w' w.heap.size (fun k_ => some k_ ≠ ((.slice Ao23 t149.length co23) : Value).ownBlock) (.slice Ao9 x6_1.length co9) x6_1) ∧ Aside0 (Kd.R (Kd.int .i64) 76 w' w.heap.size (fun _ => True) (.slice Ao19 x9_7.length co19) x9_7) ∧ Aside0 (Kd.R (Kd.int .i64) 3 w' w.heap.size (fun k_ => some k_ ≠ ((.slice Ao9 x6_1.length co9) : Value).ownBlock) (.slice Ao23 t149.length co23) t149) ∧ Aside0 (Kd.R (Kd.int .i64) 2 w' w.heap.size (fun _ => True) u148005 x148005_4) ∧ Aside0 (w'.heap[gb147]? = some (.cells #[.int .i64 t143, .bool t144, .bool t145, .int .i64 t146, .bool t148, u148005] 48 (0, 0))) ∧ Aside0 (Below w.heap.size w w'))
                    case atStart => exact ⟨(0), (([] : List Int)), (.slice none 0 0), (by first | rfl | (simp; done) | (simp [*]; done)), H', ⟨Nat.le_refl _⟩, ⟨by (with_reducible repeat (first | apply Kd.S_alloc | apply Go.Proofs.Ytnjbobboookfmaa.Ext.R_bytes | apply Kd.S_drewN | apply Kd.S_drew)); exact Kd.S_mono HO_5.out (fun _ hk => ⟨(by simp [Value.ownBlock]), hk.2⟩)⟩, ⟨by (with_reducible repeat (first | apply Kd.R_alloc | apply Go.Proofs.Ytnjbobboookfmaa.Ext.R_bytes | apply Kd.R_drewN | apply Kd.R_drew)); exact Kd.R_mono HO_6.out (fun _ hk => hk.2)⟩, ⟨by (with_reducible repeat (first | apply Kd.R_alloc | apply Go.Proofs.Ytnjbobboookfmaa.Ext.R_bytes | apply Kd.R_drewN | apply Kd.R_drew)); exact HO_9.out⟩, ⟨by (with_reducible repeat (first | apply Kd.R_alloc | apply Go.Proofs.Ytnjbobboookfmaa.Ext.R_bytes | apply Kd.R_drewN | apply Kd.R_drew)); exact Kd.R_mono HO151.out (fun _ hk => hk.2)⟩, ⟨by first | exact Kd.R_nil _ _ _ _ _ | exact Kd.N_nil _ _ _ _ _ | exact Kd.V_nil _ _ _ _ _ | exact Kd.Q_nil _ _ _ _ _ | exact Kd.S_nil _ _ _ _ _⟩, ⟨by (with_reducible repeat (first | refine blk_drewN ?_ _ | refine blk_drew ?_ | refine blk_alloc ?_ _)); exact BK147.out⟩, ⟨by repeat (first | (with_reducible first | exact HB.out | apply below_alloc | apply Go.Proofs.Ytnjbobboookfmaa.Ext.below_bytes | apply pw_below_drewN | apply below_drew1 | refine below_set ?_ GE147.out) | exact HB.out)⟩⟩
                    case round =>
                      clear H'
                      try clear c1
                      try clear p1
                      try clear q1
                      try clear hx1
                      try clear c2
                      try clear p2
                      try clear c3
                      try clear c3b0
                      try clear c4
                      try clear c4b0
                      try clear c5
                      try clear c5b0
                      try clear c6
                      try clear p6
                      try clear c9
                      try clear c10
                      try clear c10b0
                      try clear c10b1
                      try clear c13
                      try clear c13b0
                      try clear p13
                      try clear q13
                      try clear hx13
                      try clear c16
                      try clear c16b0
                      try clear hcz21_0
                      try clear hcz21_1
                      try clear hcz21_2
                      try clear hcz21_3
                      try clear hcz21_4
                      try clear hcz21_5
                      try clear hfz21_0
                      try clear hfz21_1
                      try clear hfz21_2
                      try clear hfz21_3
                      try clear hfz21_4
                      try clear hfz21_5
                      try clear hx136_0
                      try clear p1
                      try clear p136
                      try clear p2
                      try clear p6
                      try clear q1
                      try clear q136
                      obtain ⟨x64_4, x148005_4, u148005, rfl, HA, HK4, HO_5, HO_6, HO_9, HO_62, HO_148005, BK147, HB⟩ := hrel
                      cases gk with
                      | zero => exact absurd HA.out (by simp [impl_AskParams.l2])
                      | succ k4 =>
                        have H := HA.out
                        clear HA
                        simp only [impl_AskParams.l2] at H
                        by_cases c24 : x64_4 < (t149.length : Int)
                        · rw [if_pos c24] at H
                          have c24b0 : decide (x64_4 < (t149.length : Int)) = true := decide_eq_true c24
                          clear c24
                          by_cases c25 : 0 ≤ x64_4
                          · rw [if_pos c25] at H
                            have c25b0 : decide (0 ≤ x64_4) = true := decide_eq_true c25
                            clear c25
                            by_cases c26 : x64_4 < (t149.length : Int)
                            · rw [if_pos c26] at H
                              have c26b0 : decide (x64_4 < (t149.length : Int)) = true := decide_eq_true c26
                              clear c26
                              by_cases c27 : x148005_4.length < 17592186044416
                              · rw [if_pos c27] at H
                                have LMc27 := Aside0.mk c27
                                clear c27
                                obtain ⟨y153, hy153⟩ : ∃ y_ : List Int, y_ = (x148005_4 ++ [rd t149 x64_4]) := ⟨_, rfl⟩
                                replace H : (impl_AskParams.l2 k4 a1 x5_3 x6_1 x9_7 x10_3 t149 (t149.length : Int) (wrap64 (x64_4 + 1)) t143 t144 t145 t146 t148 y153) = some (r1, r2) := by first | (rw [hy153]; with_reducible exact H) | (have H2_ := (Option.bind_some _ _).symm.trans H; rw [hy153]; with_reducible exact H2_) | (have H2_ := (Option.bind_some _ _).symm.trans H; with_reducible exact H2_) | with_reducible exact H | (rw [hy153]; exact H) | exact H
                                have Ny153 := Aside0.mk hy153
                                clear hy153
                                have H' := Aside0.mk H
                                clear H
                                have p152 : 0 ≤ (x64_4 : Int) := of_decide_eq_true (by first | (with_reducible assumption) | assumption)
                                have q152 : x64_4 < (t149.length : Int) := of_decide_eq_true (by first | (with_reducible assumption) | assumption)
                                obtain ⟨ad152, e152, hx152_0⟩ := Kd.at_int (Kd.R_reads' HO_62.out).2.2 x64_4 p152 q152
                                cases e152
                                replace p152 := eq_true p152
                                replace q152 := eq_true q152
                                have hcz28_0 : wr.cell? ⟨gb147, 0, none⟩ = some (.int .i64 t143) := (blk_cell BK147.out 0).trans rfl
                                have hcz28_1 : wr.cell? ⟨gb147, 1, none⟩ = some (.bool t144) := (blk_cell BK147.out 1).trans rfl
                                have hcz28_2 : wr.cell? ⟨gb147, 2, none⟩ = some (.bool t145) := (blk_cell BK147.out 2).trans rfl
                                have hcz28_3 : wr.cell? ⟨gb147, 3, none⟩ = some (.int .i64 t146) := (blk_cell BK147.out 3).trans rfl
                                have hcz28_4 : wr.cell? ⟨gb147, 4, none⟩ = some (.bool t148) := (blk_cell BK147.out 4).trans rfl
                                have hcz28_5 : wr.cell? ⟨gb147, 5, none⟩ = some (u148005) := (blk_cell BK147.out 5).trans rfl
                                have hfz28_0 := blk_frozen BK147.out 0
                                have hfz28_1 := blk_frozen BK147.out 1
                                have hfz28_2 := blk_frozen BK147.out 2
                                have hfz28_3 := blk_frozen BK147.out 3
                                have hfz28_4 := blk_frozen BK147.out 4
                                have hfz28_5 := blk_frozen BK147.out 5
                                go_wp2_with (first | ((with_reducible refine gate_builtin (b := .append) (xs := #[.tmp 69, .tmp 71]) rfl ?_); at_builtin; refine Kd.R_append (Kd.int .i64) (w0 := w) w.heap.size rfl (.tmp 69) (.tmp 71) 41 2 (.int .i64 0) 8 rfl Try.underlying41 info2 rfl (by decide) (by omega) u148005 x148005_4 (rd t149 x64_4) [.int .i64 (rd t149 x64_4)] (fun _ => True) (fun _ => False) rfl rfl ?aP (fun _ hk => hk.elim) ?aF ?aO ?aB ?aS ?aL ?_; (case aP => exact rfl); (case aB => exact (by repeat (first | (with_reducible first | exact HB.out | apply below_alloc | apply Go.Proofs.Ytnjbobboookfmaa.Ext.below_bytes | apply pw_below_drewN | apply below_drew1 | refine below_set ?_ GE147.out) | exact HB.out))); (case aF => exact (fun _ _ => trivial)); (case aO => exact (by (with_reducible repeat (first | apply Kd.R_alloc | apply Go.Proofs.Ytnjbobboookfmaa.Ext.R_bytes | apply Kd.R_drewN | apply Kd.R_drew)); exact HO_148005.out)); (case aS => exact (below_size (by repeat (first | (with_reducible first | exact HB.out | apply below_alloc | apply Go.Proofs.Ytnjbobboookfmaa.Ext.below_bytes | apply pw_below_drewN | apply below_drew1 | refine below_set ?_ GE147.out) | exact HB.out)))); (case aL => have := LMc27.out; omega); intro v154 w29 ho hb hg hat; rw [← Ny153.out] at ho; have n0_ := Aside0.mk (Kd.S_after (ok := (fun k_ => k_ ≠ gb147)) (by (with_reducible repeat (first | apply Kd.S_alloc | apply Go.Proofs.Ytnjbobboookfmaa.Ext.R_bytes | apply Kd.S_drewN | apply Kd.S_drew)); exact Kd.S_mono HO_5.out (fun _ hk => ⟨hk.2, hk.1⟩)) hg hat); have n1_ := Aside0.mk (Kd.R_over' (by (with_reducible repeat (first | apply Kd.R_alloc | apply Go.Proofs.Ytnjbobboookfmaa.Ext.R_bytes | apply Kd.R_drewN | apply Kd.R_drew)); exact HO_6.out) (Kd.R_typed (by (with_reducible repeat (first | apply Kd.R_alloc | apply Go.Proofs.Ytnjbobboookfmaa.Ext.R_bytes | apply Kd.R_drewN | apply Kd.R_drew)); exact HO_148005.out)) (by decide) hg); have n2_ := Aside0.mk (Kd.R_over' (by (with_reducible repeat (first | apply Kd.R_alloc | apply Go.Proofs.Ytnjbobboookfmaa.Ext.R_bytes | apply Kd.R_drewN | apply Kd.R_drew)); exact HO_9.out) (Kd.R_typed (by (with_reducible repeat (first | apply Kd.R_alloc | apply Go.Proofs.Ytnjbobboookfmaa.Ext.R_bytes | apply Kd.R_drewN | apply Kd.R_drew)); exact HO_148005.out)) (by decide) hg); have n3_ := Aside0.mk (Kd.R_over' (by (with_reducible repeat (first | apply Kd.R_alloc | apply Go.Proofs.Ytnjbobboookfmaa.Ext.R_bytes | apply Kd.R_drewN | apply Kd.R_drew)); exact HO_62.out) (Kd.R_typed (by (with_reducible repeat (first | apply Kd.R_alloc | apply Go.Proofs.Ytnjbobboookfmaa.Ext.R_bytes | apply Kd.R_drewN | apply Kd.R_drew)); exact HO_148005.out)) (by decide) hg); have n4_ := Aside0.mk (blk_grown (g := gb147) (o := .cells #[.int .i64 t143, .bool t144, .bool t145, .int .i64 t146, .bool t148, u148005] 48 (0, 0)) (by (with_reducible repeat (first | refine blk_drewN ?_ _ | refine blk_drew ?_ | refine blk_alloc ?_ _)); exact BK147.out) hg (Kd.R_ne HO_148005.out BK147.out (by decide))); have n5_ := Aside0.mk (hb); have n6_ := Aside0.mk (ho); clear HO_5; clear HO_6; clear HO_9; clear HO_62; clear BK147; clear HB; clear HO_148005; have HO_5 := n0_; have HO_6 := n1_; have HO_9 := n2_; have HO_62 := n3_; have BK147 := n4_; have HB := n5_; have HO155 := n6_; clear n0_ n1_ n2_ n3_ n4_ n5_ n6_; clear ho hb hg hat; obtain ⟨Ao30, co30, eo30⟩ := Kd.R_slice HO155.out; subst eo30; have hcz31_0 : w29.cell? ⟨gb147, 0, none⟩ = some (.int .i64 t143) := (blk_cell BK147.out 0).trans rfl; have hcz31_1 : w29.cell? ⟨gb147, 1, none⟩ = some (.bool t144) := (blk_cell BK147.out 1).trans rfl; have hcz31_2 : w29.cell? ⟨gb147, 2, none⟩ = some (.bool t145) := (blk_cell BK147.out 2).trans rfl; have hcz31_3 : w29.cell? ⟨gb147, 3, none⟩ = some (.int .i64 t146) := (blk_cell BK147.out 3).trans rfl; have hcz31_4 : w29.cell? ⟨gb147, 4, none⟩ = some (.bool t148) := (blk_cell BK147.out 4).trans rfl; have hcz31_5 : w29.cell? ⟨gb147, 5, none⟩ = some (u148005) := (blk_cell BK147.out 5).trans rfl; have hfz31_0 := blk_frozen BK147.out 0; have hfz31_1 := blk_frozen BK147.out 1; have hfz31_2 := blk_frozen BK147.out 2; have hfz31_3 := blk_frozen BK147.out 3; have hfz31_4 := blk_frozen BK147.out 4; have hfz31_5 := blk_frozen BK147.out 5))
                                go_roundg k4
                                case measure => have := HK1.out; have := HJ7.out; have := HK3.out; have := HK4.out; omega
                                case rel => exact ⟨(wrap64 (x64_4 + 1)), (y153), (.slice Ao30 y153.length co30), (by first | rfl | (simp; done) | (simp [*]; done)), H', ⟨by have := HK1.out; have := HJ7.out; have := HK3.out; have := HK4.out; omega⟩, ⟨by (with_reducible repeat (first | apply Kd.S_alloc | apply Go.Proofs.Ytnjbobboookfmaa.Ext.R_bytes | apply Kd.S_drewN | apply Kd.S_drew)); exact Kd.S_mono (Kd.S_far (p := ⟨gb147, 5, none⟩) (Kd.S_mono HO_5.out (fun k_ hk => (⟨hk, hk.1⟩ : _ ∧ k_ ≠ gb147))) (fun _ hk => hk.2) (.slice Ao30 y153.length co30)) (fun _ hk => ⟨hk.1.2, hk.1.1⟩)⟩, ⟨by (with_reducible repeat (first | apply Kd.R_alloc | apply Go.Proofs.Ytnjbobboookfmaa.Ext.R_bytes | apply Kd.R_drewN | apply Kd.R_drew)); exact Kd.R_mono (Kd.R_far (p := ⟨gb147, 5, none⟩) (Kd.R_types HO_6.out BK147.out (by decide)) (fun _ hk => hk.2) (.slice Ao30 y153.length co30)) (fun _ hk => hk.1)⟩, ⟨by (with_reducible repeat (first | apply Kd.R_alloc | apply Go.Proofs.Ytnjbobboookfmaa.Ext.R_bytes | apply Kd.R_drewN | apply Kd.R_drew)); exact Kd.R_mono (Kd.R_far (p := ⟨gb147, 5, none⟩) (Kd.R_types HO_9.out BK147.out (by decide)) (fun _ hk => hk.2) (.slice Ao30 y153.length co30)) (fun _ hk => trivial)⟩, ⟨by (with_reducible repeat (first | apply Kd.R_alloc | apply Go.Proofs.Ytnjbobboookfmaa.Ext.R_bytes | apply Kd.R_drewN | apply Kd.R_drew)); exact Kd.R_mono (Kd.R_far (p := ⟨gb147, 5, none⟩) (Kd.R_types HO_62.out BK147.out (by decide)) (fun _ hk => hk.2) (.slice Ao30 y153.length co30)) (fun _ hk => hk.1)⟩, ⟨by (with_reducible repeat (first | apply Kd.R_alloc | apply Go.Proofs.Ytnjbobboookfmaa.Ext.R_bytes | apply Kd.R_drewN | apply Kd.R_drew)); exact Kd.R_mono (Kd.R_far (p := ⟨gb147, 5, none⟩) (Kd.R_types HO155.out BK147.out (by decide)) (fun _ hk => hk.2) (.slice Ao30 y153.length co30)) (fun _ hk => trivial)⟩, ⟨by (with_reducible repeat (first | refine blk_drewN ?_ _ | refine blk_drew ?_ | refine blk_alloc ?_ _)); refine blk_put (cs := #[.int .i64 t143, .bool t144, .bool t145, .int .i64 t146, .bool t148, u148005]) ?_ 5 _ rfl; (with_reducible repeat (first | refine blk_drewN ?_ _ | refine blk_drew ?_ | refine blk_alloc ?_ _)); exact BK147.out⟩, ⟨by repeat (first | (with_reducible first | exact HB.out | apply below_alloc | apply Go.Proofs.Ytnjbobboookfmaa.Ext.below_bytes | apply pw_below_drewN | apply below_drew1 | refine below_set ?_ GE147.out) | exact HB.out)⟩⟩
                              · rw [if_neg c27] at H
                                exact absurd H (by simp)
                            · rw [if_neg c26] at H
                              exact absurd H (by simp)
                          · rw [if_neg c25] at H
                            exact absurd H (by simp)
                        · rw [if_neg c24] at H
                          have c24b0 : decide (x64_4 < (t149.length : Int)) = false := decide_eq_false c24
                          clear c24
                          by_cases c32 : x5_3.length < 2513169434916
                          · rw [if_pos c32] at H
                            have LMc32 := Aside0.mk c32
                            clear c32
                            obtain ⟨y156, hy156⟩ : ∃ y_ : List (S48), y_ = (x5_3 ++ [(⟨t143, t144, t145, t146, t148, x148005_4⟩ : S48)]) := ⟨_, rfl⟩
                            replace H : (impl_AskParams.l1 k4 a1 y156 x6_1 x9_7 (wrap64 (x10_3 + 1))) = some (r1, r2) := by first | (rw [hy156]; with_reducible exact H) | (have H2_ := (Option.bind_some _ _).symm.trans H; rw [hy156]; with_reducible exact H2_) | (have H2_ := (Option.bind_some _ _).symm.trans H; with_reducible exact H2_) | with_reducible exact H | (rw [hy156]; exact H) | exact H
                            have Ny156 := Aside0.mk hy156
                            clear hy156
                            have H' := Aside0.mk H
                            clear H
                            have hcz33_0 : wr.cell? ⟨gb147, 0, none⟩ = some (.int .i64 t143) := (blk_cell BK147.out 0).trans rfl
                            have hcz33_1 : wr.cell? ⟨gb147, 1, none⟩ = some (.bool t144) := (blk_cell BK147.out 1).trans rfl
                            have hcz33_2 : wr.cell? ⟨gb147, 2, none⟩ = some (.bool t145) := (blk_cell BK147.out 2).trans rfl
                            have hcz33_3 : wr.cell? ⟨gb147, 3, none⟩ = some (.int .i64 t146) := (blk_cell BK147.out 3).trans rfl
                            have hcz33_4 : wr.cell? ⟨gb147, 4, none⟩ = some (.bool t148) := (blk_cell BK147.out 4).trans rfl
                            have hcz33_5 : wr.cell? ⟨gb147, 5, none⟩ = some (u148005) := (blk_cell BK147.out 5).trans rfl
                            have hfz33_0 := blk_frozen BK147.out 0
                            have hfz33_1 := blk_frozen BK147.out 1
                            have hfz33_2 := blk_frozen BK147.out 2
                            have hfz33_3 := blk_frozen BK147.out 3
                            have hfz33_4 := blk_frozen BK147.out 4
                            have hfz33_5 := blk_frozen BK147.out 5
                            obtain ⟨Ao35, co35, eo35⟩ := Kd.R_slice HO_148005.out
                            subst eo35
                            go_wp2_with (first | ((with_reducible refine gate_builtin (b := .append) (xs := #[.tmp 75, .tmp 77]) rfl ?_); at_builtin; refine Kd.S_append k48 (w0 := w) w.heap.size rfl (.tmp 75) (.tmp 77) 42 48 (.agg #[(.int .i64 0), (.bool false), (.bool false), (.int .i64 0), (.bool false), (.slice none 0 0)]) 56 rfl Try.underlying42 info48 rfl (by decide) (by omega) u5 x5_3 (⟨t143, t144, t145, t146, t148, x148005_4⟩ : S48) [.int .i64 t143, .bool t144, .bool t145, .int .i64 t146, .bool t148, .slice Ao35 x148005_4.length co35] (fun k_ => k_ ≠ gb147) (fun k_ => some k_ = (.slice Ao35 x148005_4.length co35 : Value).ownBlock) rfl rfl ?aP (fun k_ hk_ => ((Kd.R_mono (ok' := fun k_ => ((fun k_ => k_ ≠ gb147)) k_ ∧ some k_ ≠ (u5 : Value).ownBlock) (Kd.R_types (Kd.R_apart' (HO_148005.out) (Kd.S_typed HO_5.out) (by decide)) BK147.out (by decide)) (fun k_ hk => ⟨hk.2, hk.1.2⟩))).1 k_ hk_.symm) ?aF ?aO ?aB ?aS ?aL ?_; (case aP => exact k48_mkM _ _ _ (⟨t143, t144, t145, t146, t148, x148005_4⟩ : S48) (Kd.R_mono (Kd.R_tight rfl (Kd.R_mono (ok' := fun k_ => ((fun k_ => k_ ≠ gb147)) k_ ∧ some k_ ≠ (u5 : Value).ownBlock) (Kd.R_types (Kd.R_apart' (HO_148005.out) (Kd.S_typed HO_5.out) (by decide)) BK147.out (by decide)) (fun k_ hk => ⟨hk.2, hk.1.2⟩))) (fun _ h_ => h_))); (case aB => exact (by repeat (first | (with_reducible first | exact HB.out | apply below_alloc | apply Go.Proofs.Ytnjbobboookfmaa.Ext.below_bytes | apply pw_below_drewN | apply below_drew1 | refine below_set ?_ GE147.out) | exact HB.out))); (case aF => exact (fun k_ hk => Kd.freshB (g := gb147) (o := .cells #[.int .i64 t143, .bool t144, .bool t145, .int .i64 t146, .bool t148, .slice Ao35 x148005_4.length co35] 48 (0, 0)) (by (with_reducible repeat (first | refine blk_drewN ?_ _ | refine blk_drew ?_ | refine blk_alloc ?_ _)); exact BK147.out) k_ hk)); (case aO => exact (by (with_reducible repeat (first | apply Kd.S_alloc | apply Go.Proofs.Ytnjbobboookfmaa.Ext.R_bytes | apply Kd.S_drewN | apply Kd.S_drew)); exact Kd.S_mono HO_5.out (fun k_ hk => ⟨hk.2, fun e_ => hk.1 e_⟩))); (case aS => exact (below_size (by repeat (first | (with_reducible first | exact HB.out | apply below_alloc | apply Go.Proofs.Ytnjbobboookfmaa.Ext.below_bytes | apply pw_below_drewN | apply below_drew1 | refine below_set ?_ GE147.out) | exact HB.out)))); (case aL => have := LMc32.out; omega); intro v157 w34 ho hb hg hat; rw [← Ny156.out] at ho; have n0_ := Aside0.mk (Kd.R_over' (by (with_reducible repeat (first | apply Kd.R_alloc | apply Go.Proofs.Ytnjbobboookfmaa.Ext.R_bytes | apply Kd.R_drewN | apply Kd.R_drew)); exact HO_6.out) (Kd.S_typed (by (with_reducible repeat (first | apply Kd.S_alloc | apply Go.Proofs.Ytnjbobboookfmaa.Ext.R_bytes | apply Kd.S_drewN | apply Kd.S_drew)); exact HO_5.out)) (by decide) hg); have n1_ := Aside0.mk (Kd.R_over' (by (with_reducible repeat (first | apply Kd.R_alloc | apply Go.Proofs.Ytnjbobboookfmaa.Ext.R_bytes | apply Kd.R_drewN | apply Kd.R_drew)); exact HO_9.out) (Kd.S_typed (by (with_reducible repeat (first | apply Kd.S_alloc | apply Go.Proofs.Ytnjbobboookfmaa.Ext.R_bytes | apply Kd.S_drewN | apply Kd.S_drew)); exact HO_5.out)) (by decide) hg); have n2_ := Aside0.mk (Kd.R_over' (by (with_reducible repeat (first | apply Kd.R_alloc | apply Go.Proofs.Ytnjbobboookfmaa.Ext.R_bytes | apply Kd.R_drewN | apply Kd.R_drew)); exact HO_62.out) (Kd.S_typed (by (with_reducible repeat (first | apply Kd.S_alloc | apply Go.Proofs.Ytnjbobboookfmaa.Ext.R_bytes | apply Kd.S_drewN | apply Kd.S_drew)); exact HO_5.out)) (by decide) hg); have n3_ := Aside0.mk (blk_grown (g := gb147) (o := .cells #[.int .i64 t143, .bool t144, .bool t145, .int .i64 t146, .bool t148, .slice Ao35 x148005_4.length co35] 48 (0, 0)) (by (with_reducible repeat (first | refine blk_drewN ?_ _ | refine blk_drew ?_ | refine blk_alloc ?_ _)); exact BK147.out) hg (Kd.S_away HO_5.out (fun _ hk => hk.2))); have n4_ := Aside0.mk (hb); have n5_ := Aside0.mk (ho); clear HO_6; clear HO_9; clear HO_62; clear BK147; clear HB; clear HO_5; clear HO_148005; have HO_6 := n0_; have HO_9 := n1_; have HO_62 := n2_; have BK147 := n3_; have HB := n4_; have HO158 := n5_; clear n0_ n1_ n2_ n3_ n4_ n5_; clear ho hb hg hat))
                            go_roundg k4
                            case measure => have := HK1.out; have := HJ7.out; have := HK3.out; have := HK4.out; omega
                            case rel => exact ⟨(y156), (wrap64 (x10_3 + 1)), (by first | rfl | (simp; done) | (simp [*]; done)), H', ⟨by have := HK1.out; have := HJ7.out; have := HK3.out; have := HK4.out; omega⟩, ⟨by (with_reducible repeat (first | apply Kd.S_alloc | apply Go.Proofs.Ytnjbobboookfmaa.Ext.R_bytes | apply Kd.S_drewN | apply Kd.S_drew)); exact Kd.S_mono HO158.out (fun _ hk => trivial)⟩, ⟨by (with_reducible repeat (first | apply Kd.R_alloc | apply Go.Proofs.Ytnjbobboookfmaa.Ext.R_bytes | apply Kd.R_drewN | apply Kd.R_drew)); exact Kd.R_mono HO_6.out (fun _ hk => trivial)⟩, ⟨by (with_reducible repeat (first | apply Kd.R_alloc | apply Go.Proofs.Ytnjbobboookfmaa.Ext.R_bytes | apply Kd.R_drewN | apply Kd.R_drew)); exact HO_9.out⟩, ⟨by repeat (first | (with_reducible first | exact HB.out | apply below_alloc | apply Go.Proofs.Ytnjbobboookfmaa.Ext.below_bytes | apply pw_below_drewN | apply below_drew1 | refine below_set ?_ GE147.out) | exact HB.out)⟩⟩
                          · rw [if_neg c32] at H
                            exact absurd H (by simp)
                  · rw [if_neg c16] at H
                    have c16b0 : decide (0 ≤ x10_3) = false := decide_eq_false c16
                    clear c16
                    replace H := Option.bind_eq_some_iff.mp H
                    obtain ⟨t159, A360, H⟩ := H
                    replace H : (impl_AskParams.l2 k3 a1 x5_3 x6_1 x9_7 x10_3 t159 (t159.length : Int) 0 t143 t144 t145 t146 false ([] : List Int)) = some (r1, r2) := H
                    have A36 := Aside0.mk A360
                    clear A360
                    have H' := Aside0.mk H
                    clear H
                    obtain ⟨Ao37, co37, eo37⟩ := Kd.R_slice HO_9.out
                    subst eo37
                    go_wp2_with (first | ((with_reducible refine gate_callee (f := 26) rfl ?_); refine goesL_ (some 43) rfl rfl Try.func26 (by kernel_rfl) rfl #[.slice Ao37 x9_7.length co37, .int .i64 x10_3, .int .i64 a1] rfl (by (try simp only [List.map_toArray, List.map_cons, List.map_nil]); first | done | rfl | (simp only [List.length_drop, List.length_take]; rfl) | (simp [Act.eval, *]; done) | (simp [Act.eval, *]; unfold wrap64; omega)) ?_; (with_reducible refine (xansi_Params_Param.calls _ _ x9_7 x10_3 a1 t143 t144 t145 _ ?side1 ?side2 A14.out).mono ?_); (case side1 => repeat (first | exact (Kd.R_reads' HO_9.out).2.2 | (with_reducible refine Kd.C_alloc ?_ _) | (with_reducible refine Kd.C_drewN ?_ _) | (with_reducible refine Kd.C_drew ?_))); (case side2 => exact (Kd.R_reads' HO_9.out).2.1); rintro e w' ⟨rfl, ⟨nd, rfl⟩⟩; refine ⟨_, rfl, ?_⟩; (try (rw [drewN_self wr]; generalize hq_ : World.drewN wr _ = wr; have n0_ : Aside0 (Kd.S k48 48 wr w.heap.size (fun _ => True) u5 x5_3) := ⟨by rw [← hq_]; exact (by (with_reducible repeat (first | apply Kd.S_alloc | apply Go.Proofs.Ytnjbobboookfmaa.Ext.R_bytes | apply Kd.S_drewN | apply Kd.S_drew)); exact HO_5.out)⟩; have n1_ : Aside0 (Kd.R (Kd.int .i64) 3 wr w.heap.size (fun _ => True) (.slice Ao9 x6_1.length co9) x6_1) := ⟨by rw [← hq_]; exact (by (with_reducible repeat (first | apply Kd.R_alloc | apply Go.Proofs.Ytnjbobboookfmaa.Ext.R_bytes | apply Kd.R_drewN | apply Kd.R_drew)); exact HO_6.out)⟩; have n2_ : Aside0 (Kd.R (Kd.int .i64) 76 wr w.heap.size (fun _ => True) (.slice Ao37 x9_7.length co37) x9_7) := ⟨by rw [← hq_]; exact (by (with_reducible repeat (first | apply Kd.R_alloc | apply Go.Proofs.Ytnjbobboookfmaa.Ext.R_bytes | apply Kd.R_drewN | apply Kd.R_drew)); exact HO_9.out)⟩; have n3_ : Aside0 (Below w.heap.size w wr) := ⟨by rw [← hq_]; exact (by repeat (first | (with_reducible first | exact HB.out | apply below_alloc | apply Go.Proofs.Ytnjbobboookfmaa.Ext.below_bytes | apply pw_below_drewN | apply below_drew1) | exact HB.out))⟩; clear HO_5 HO_6 HO_9 HB hq_; have HO_5 := n0_; have HO_6 := n1_; have HO_9 := n2_; have HB := n3_; clear n0_ n1_ n2_ n3_))) | ((with_reducible refine gate_callee (f := 27) rfl ?_); refine goesL_ (some 52) rfl rfl Try.func27 (by kernel_rfl) rfl #[.slice Ao9 x6_1.length co9, .int .i64 x10_3] rfl (by (try simp only [List.map_toArray, List.map_cons, List.map_nil]); first | done | rfl | (simp only [List.length_drop, List.length_take]; rfl) | (simp [Act.eval, *]; done) | (simp [Act.eval, *]; unfold wrap64; omega)) ?_; (with_reducible refine (parser_Param.calls _ _ x6_1 x10_3 t146 _ ?side1 ?side2 A15.out).mono ?_); (case side1 => repeat (first | exact (Kd.R_reads' HO_6.out).2.2 | (with_reducible refine Kd.C_alloc ?_ _) | (with_reducible refine Kd.C_drewN ?_ _) | (with_reducible refine Kd.C_drew ?_))); (case side2 => exact (Kd.R_reads' HO_6.out).2.1); rintro e w' ⟨rfl, ⟨nd, rfl⟩⟩; refine ⟨_, rfl, ?_⟩; (try (rw [drewN_self wr]; generalize hq_ : World.drewN wr _ = wr; have n0_ : Aside0 (Kd.S k48 48 wr w.heap.size (fun _ => True) u5 x5_3) := ⟨by rw [← hq_]; exact (by (with_reducible repeat (first | apply Kd.S_alloc | apply Go.Proofs.Ytnjbobboookfmaa.Ext.R_bytes | apply Kd.S_drewN | apply Kd.S_drew)); exact HO_5.out)⟩; have n1_ : Aside0 (Kd.R (Kd.int .i64) 3 wr w.heap.size (fun _ => True) (.slice Ao9 x6_1.length co9) x6_1) := ⟨by rw [← hq_]; exact (by (with_reducible repeat (first | apply Kd.R_alloc | apply Go.Proofs.Ytnjbobboookfmaa.Ext.R_bytes | apply Kd.R_drewN | apply Kd.R_drew)); exact HO_6.out)⟩; have n2_ : Aside0 (Kd.R (Kd.int .i64) 76 wr w.heap.size (fun _ => True) (.slice Ao37 x9_7.length co37) x9_7) := ⟨by rw [← hq_]; exact (by (with_reducible repeat (first | apply Kd.R_alloc | apply Go.Proofs.Ytnjbobboookfmaa.Ext.R_bytes | apply Kd.R_drewN | apply Kd.R_drew)); exact HO_9.out)⟩; have n3_ : Aside0 (Below w.heap.size w wr) := ⟨by rw [← hq_]; exact (by repeat (first | (with_reducible first | exact HB.out | apply below_alloc | apply Go.Proofs.Ytnjbobboookfmaa.Ext.below_bytes | apply pw_below_drewN | apply below_drew1) | exact HB.out))⟩; clear HO_5 HO_6 HO_9 HB hq_; have HO_5 := n0_; have HO_6 := n1_; have HO_9 := n2_; have HB := n3_; clear n0_ n1_ n2_ n3_))) | ((with_reducible refine gate_dst (N := 14) rfl ?_); refine box_event ?hg (N := 14) ?hd (cs := #[.int .i64 0, .bool false, .bool false, .int .i64 0, .bool false, .slice none 0 0]) (t := 48) ?hr ?_; (case hd => rfl); (case hg => rfl); (case hr => first | (go_simp; done) | (go_simp; rfl)); intro gb147 hg w38 hbox hb; have n0_ := Aside0.mk (Kd.S_below (Kd.S_elderB (by (with_reducible repeat (first | apply Kd.S_alloc | apply Go.Proofs.Ytnjbobboookfmaa.Ext.R_bytes | apply Kd.S_drewN | apply Kd.S_drew)); exact HO_5.out) gb147 (Nat.le_of_eq hg.symm)) hb); have n1_ := Aside0.mk (Kd.R_below (by (with_reducible repeat (first | apply Kd.R_alloc | apply Go.Proofs.Ytnjbobboookfmaa.Ext.R_bytes | apply Kd.R_drewN | apply Kd.R_drew)); exact HO_6.out) hb); have n2_ := Aside0.mk (Kd.R_below (by (with_reducible repeat (first | apply Kd.R_alloc | apply Go.Proofs.Ytnjbobboookfmaa.Ext.R_bytes | apply Kd.R_drewN | apply Kd.R_drew)); exact HO_9.out) hb); have n3_ := Aside0.mk (below_step (by repeat (first | (with_reducible first | exact HB.out | apply below_alloc | apply Go.Proofs.Ytnjbobboookfmaa.Ext.below_bytes | apply pw_below_drewN | apply below_drew1) | exact HB.out)) hb); have n4_ := Aside0.mk (hbox); have n5_ := Aside0.mk ((by rw [hg]; exact (below_size (by repeat (first | (with_reducible first | exact HB.out | apply below_alloc | apply Go.Proofs.Ytnjbobboookfmaa.Ext.below_bytes | apply pw_below_drewN | apply below_drew1) | exact HB.out))) : w.heap.size ≤ gb147)); have n6_ := Aside0.mk ((by rw [hg]; exact (below_size (by repeat (first | (with_reducible first | exact HB.out | apply below_alloc | apply Go.Proofs.Ytnjbobboookfmaa.Ext.below_bytes | apply pw_below_drewN | apply below_drew1) | exact HB.out))) : w.heap.size ≤ gb147)); clear HO_5; clear HO_6; clear HO_9; clear HB; have HO_5 := n0_; have HO_6 := n1_; have HO_9 := n2_; have HB := n3_; have BK147 := n4_; have GW147 := n5_; have GE147 := n6_; clear n0_ n1_ n2_ n3_ n4_ n5_ n6_; clear hb hbox hg; have hcz39_0 : w38.cell? ⟨gb147, 0, none⟩ = some (.int .i64 0) := (blk_cell BK147.out 0).trans rfl; have hcz39_1 : w38.cell? ⟨gb147, 1, none⟩ = some (.bool false) := (blk_cell BK147.out 1).trans rfl; have hcz39_2 : w38.cell? ⟨gb147, 2, none⟩ = some (.bool false) := (blk_cell BK147.out 2).trans rfl; have hcz39_3 : w38.cell? ⟨gb147, 3, none⟩ = some (.int .i64 0) := (blk_cell BK147.out 3).trans rfl; have hcz39_4 : w38.cell? ⟨gb147, 4, none⟩ = some (.bool false) := (blk_cell BK147.out 4).trans rfl; have hcz39_5 : w38.cell? ⟨gb147, 5, none⟩ = some (.slice none 0 0) := (blk_cell BK147.out 5).trans rfl; have hfz39_0 := blk_frozen BK147.out 0; have hfz39_1 := blk_frozen BK147.out 1; have hfz39_2 := blk_frozen BK147.out 2; have hfz39_3 := blk_frozen BK147.out 3; have hfz39_4 := blk_frozen BK147.out 4; have hfz39_5 := blk_frozen BK147.out 5) | ((with_reducible refine gate_callee (f := 29) rfl ?_); refine goesL_ (some 62) rfl rfl Try.func29 (by kernel_rfl) rfl #[.slice Ao9 x6_1.length co9, .int .i64 x10_3] rfl (by (try simp only [List.map_toArray, List.map_cons, List.map_nil]); first | done | rfl | (simp only [List.length_drop, List.length_take]; rfl) | (simp [Act.eval, *]; done) | (simp [Act.eval, *]; unfold wrap64; omega)) ?_; (with_reducible refine (parser_Subparams.calls k3 _ _ x6_1 x10_3 t159 _ ?side1 ?side2 A36.out).mono ?_); (case side1 => refine (Kd.R_reads' (e := 3) (base := w.heap.size) (ok := fun k_ => True) (n := x6_1.length) (c := co9) ?_).2.2; exact (by (with_reducible repeat (first | apply Kd.R_alloc | apply Go.Proofs.Ytnjbobboookfmaa.Ext.R_bytes | apply Kd.R_drewN | apply Kd.R_drew)); exact (Kd.R_mono (Kd.R_far (p := ⟨gb147, 5, none⟩) (Kd.R_far (p := ⟨gb147, 4, none⟩) (Kd.R_far (p := ⟨gb147, 3, none⟩) (Kd.R_far (p := ⟨gb147, 2, none⟩) (Kd.R_far (p := ⟨gb147, 1, none⟩) (Kd.R_far (p := ⟨gb147, 0, none⟩) (Kd.R_types HO_6.out BK147.out (by decide)) (fun _ hk => hk.2) (.int .i64 t143)) (fun _ hk => hk.2) (.bool t144)) (fun _ hk => hk.2) (.bool t145)) (fun _ hk => hk.2) (.int .i64 t146)) (fun _ hk => hk.2) (.bool false)) (fun _ hk => hk.2) (.slice none 0 0)) (fun _ h_ => h_.1)))); (case side2 => exact (Kd.R_reads' HO_6.out).2.1); rintro e w40 ⟨v160, rfl, ho0, hb⟩; refine ⟨_, rfl, ?_⟩; have n0_ := Aside0.mk (Kd.S_below (by (with_reducible repeat (first | apply Kd.S_alloc | apply Go.Proofs.Ytnjbobboookfmaa.Ext.R_bytes | apply Kd.S_drewN | apply Kd.S_drew)); exact (Kd.S_mono (Kd.S_far (p := ⟨gb147, 5, none⟩) (Kd.S_far (p := ⟨gb147, 4, none⟩) (Kd.S_far (p := ⟨gb147, 3, none⟩) (Kd.S_far (p := ⟨gb147, 2, none⟩) (Kd.S_far (p := ⟨gb147, 1, none⟩) (Kd.S_far (p := ⟨gb147, 0, none⟩) (Kd.S_mono HO_5.out (fun k_ hk => (⟨hk, hk.2⟩ : _ ∧ k_ ≠ gb147))) (fun _ hk => hk.2) (.int .i64 t143)) (fun _ hk => hk.2) (.bool t144)) (fun _ hk => hk.2) (.bool t145)) (fun _ hk => hk.2) (.int .i64 t146)) (fun _ hk => hk.2) (.bool false)) (fun _ hk => hk.2) (.slice none 0 0)) (fun _ h_ => h_.1))) hb); have n1_ := Aside0.mk (Kd.R_elder' (by (with_reducible repeat (first | apply Kd.R_alloc | apply Go.Proofs.Ytnjbobboookfmaa.Ext.R_bytes | apply Kd.R_drewN | apply Kd.R_drew)); exact (Kd.R_mono (Kd.R_far (p := ⟨gb147, 5, none⟩) (Kd.R_far (p := ⟨gb147, 4, none⟩) (Kd.R_far (p := ⟨gb147, 3, none⟩) (Kd.R_far (p := ⟨gb147, 2, none⟩) (Kd.R_far (p := ⟨gb147, 1, none⟩) (Kd.R_far (p := ⟨gb147, 0, none⟩) (Kd.R_types HO_6.out BK147.out (by decide)) (fun _ hk => hk.2) (.int .i64 t143)) (fun _ hk => hk.2) (.bool t144)) (fun _ hk => hk.2) (.bool t145)) (fun _ hk => hk.2) (.int .i64 t146)) (fun _ hk => hk.2) (.bool false)) (fun _ hk => hk.2) (.slice none 0 0)) (fun _ h_ => h_.1))) (Kd.R_base ho0) hb); have n2_ := Aside0.mk (Kd.R_below (by (with_reducible repeat (first | apply Kd.R_alloc | apply Go.Proofs.Ytnjbobboookfmaa.Ext.R_bytes | apply Kd.R_drewN | apply Kd.R_drew)); exact (Kd.R_mono (Kd.R_far (p := ⟨gb147, 5, none⟩) (Kd.R_far (p := ⟨gb147, 4, none⟩) (Kd.R_far (p := ⟨gb147, 3, none⟩) (Kd.R_far (p := ⟨gb147, 2, none⟩) (Kd.R_far (p := ⟨gb147, 1, none⟩) (Kd.R_far (p := ⟨gb147, 0, none⟩) (Kd.R_types HO_9.out BK147.out (by decide)) (fun _ hk => hk.2) (.int .i64 t143)) (fun _ hk => hk.2) (.bool t144)) (fun _ hk => hk.2) (.bool t145)) (fun _ hk => hk.2) (.int .i64 t146)) (fun _ hk => hk.2) (.bool false)) (fun _ hk => hk.2) (.slice none 0 0)) (fun _ h_ => h_.1))) hb); have n3_ := Aside0.mk (Kd.R_lower (Kd.R_new' ho0 (Kd.R_lt (by (with_reducible repeat (first | apply Kd.R_alloc | apply Go.Proofs.Ytnjbobboookfmaa.Ext.R_bytes | apply Kd.R_drewN | apply Kd.R_drew)); exact (Kd.R_mono (Kd.R_far (p := ⟨gb147, 5, none⟩) (Kd.R_far (p := ⟨gb147, 4, none⟩) (Kd.R_far (p := ⟨gb147, 3, none⟩) (Kd.R_far (p := ⟨gb147, 2, none⟩) (Kd.R_far (p := ⟨gb147, 1, none⟩) (Kd.R_far (p := ⟨gb147, 0, none⟩) (Kd.R_types HO_6.out BK147.out (by decide)) (fun _ hk => hk.2) (.int .i64 t143)) (fun _ hk => hk.2) (.bool t144)) (fun _ hk => hk.2) (.bool t145)) (fun _ hk => hk.2) (.int .i64 t146)) (fun _ hk => hk.2) (.bool false)) (fun _ hk => hk.2) (.slice none 0 0)) (fun _ h_ => h_.1))))) (below_size (by repeat (first | (with_reducible first | exact HB.out | apply below_alloc | apply Go.Proofs.Ytnjbobboookfmaa.Ext.below_bytes | apply pw_below_drewN | apply below_drew1 | refine below_set ?_ GE147.out) | exact HB.out)))); have n4_ := Aside0.mk (blk_below (g := gb147) (o := .cells #[.int .i64 t143, .bool t144, .bool t145, .int .i64 t146, .bool false, .slice none 0 0] 48 (0, 0)) (by (with_reducible repeat (first | refine blk_drewN ?_ _ | refine blk_drew ?_ | refine blk_alloc ?_ _)); refine blk_put (cs := #[.int .i64 t143, .bool t144, .bool t145, .int .i64 t146, .bool false, .slice none 0 0]) ?_ 5 _ rfl; (with_reducible repeat (first | refine blk_drewN ?_ _ | refine blk_drew ?_ | refine blk_alloc ?_ _)); refine blk_put (cs := #[.int .i64 t143, .bool t144, .bool t145, .int .i64 t146, .bool false, .slice none 0 0]) ?_ 4 _ rfl; (with_reducible repeat (first | refine blk_drewN ?_ _ | refine blk_drew ?_ | refine blk_alloc ?_ _)); refine blk_put (cs := #[.int .i64 t143, .bool t144, .bool t145, .int .i64 0, .bool false, .slice none 0 0]) ?_ 3 _ rfl; (with_reducible repeat (first | refine blk_drewN ?_ _ | refine blk_drew ?_ | refine blk_alloc ?_ _)); refine blk_put (cs := #[.int .i64 t143, .bool t144, .bool false, .int .i64 0, .bool false, .slice none 0 0]) ?_ 2 _ rfl; (with_reducible repeat (first | refine blk_drewN ?_ _ | refine blk_drew ?_ | refine blk_alloc ?_ _)); refine blk_put (cs := #[.int .i64 t143, .bool false, .bool false, .int .i64 0, .bool false, .slice none 0 0]) ?_ 1 _ rfl; (with_reducible repeat (first | refine blk_drewN ?_ _ | refine blk_drew ?_ | refine blk_alloc ?_ _)); refine blk_put (cs := #[.int .i64 0, .bool false, .bool false, .int .i64 0, .bool false, .slice none 0 0]) ?_ 0 _ rfl; (with_reducible repeat (first | refine blk_drewN ?_ _ | refine blk_drew ?_ | refine blk_alloc ?_ _)); exact BK147.out) hb); have n5_ := Aside0.mk (below_step (by repeat (first | (with_reducible first | exact HB.out | apply below_alloc | apply Go.Proofs.Ytnjbobboookfmaa.Ext.below_bytes | apply pw_below_drewN | apply below_drew1 | refine below_set ?_ GE147.out) | exact HB.out)) hb); clear HO_5; clear HO_6; clear HO_9; clear BK147; clear HB; have HO_5 := n0_; have HO_6 := n1_; have HO_9 := n2_; have HO161 := n3_; have BK147 := n4_; have HB := n5_; clear n0_ n1_ n2_ n3_ n4_ n5_; (try clear hb); (try clear hb2); (try clear hk); (try clear hi); (try clear ho0); obtain ⟨Ao41, co41, eo41⟩ := Kd.R_slice HO161.out; subst eo41))
                    go_loopg [64] k3 (fun kq v64 w' => ∃ (x64_4 : Int) (x148005_4 : List Int) (u148005 : Value), v64 = .int .i64 x64_4 ∧ Aside0 (impl_AskParams.l2 kq a1 x5_3 x6_1 x9_7 x10_3 t159 (t159.length : Int) x64_4 t143 t144 t145 t146 false x148005_4 = some (r1, r2)) ∧ Aside0 (kq ≤ k3) ∧ Aside0 (Kd.S k48 48 w' w.heap.size (fun k_ => some k_ ≠ (u148005 : Value).ownBlock ∧ k_ ≠ gb147) u5 x5_3) ∧ Aside0 (Kd.R (Kd.int .i64) 3 w' w.heap.size (fun k_ => some k_ ≠ ((.slice Ao41 t159.length co41) : Value).ownBlock) (.slice Ao9 x6_1.length co9) x6_1) ∧ Aside0 (Kd.R (Kd.int .i64) 76 w' w.heap.size (fun _ => True) (.slice Ao37 x9_7.length co37) x9_7) ∧ Aside0 (Kd.R (Kd.int .i64) 3 w' w.heap.size (fun k_ => some k_ ≠ ((.slice Ao9 x6_1.length co9) : Value).ownBlock) (.slice Ao41 t159.length co41) t159) ∧ Aside0 (Kd.R (Kd.int .i64) 2 w' w.heap.size (fun _ => True) u148005 x148005_4) ∧ Aside0 (w'.heap[gb147]? = some (.cells #[.int .i64 t143, .bool t144, .bool t145, .int .i64 t146, .bool false, u148005] 48 (0, 0))) ∧ Aside0 (Below w.heap.size w w'))
                    case atStart => exact ⟨(0), (([] : List Int)), (.slice none 0 0), (by first | rfl | (simp; done) | (simp [*]; done)), H', ⟨Nat.le_refl _⟩, ⟨by (with_reducible repeat (first | apply Kd.S_alloc | apply Go.Proofs.Ytnjbobboookfmaa.Ext.R_bytes | apply Kd.S_drewN | apply Kd.S_drew)); exact Kd.S_mono HO_5.out (fun _ hk => ⟨(by simp [Value.ownBlock]), hk.2⟩)⟩, ⟨by (with_reducible repeat (first | apply Kd.R_alloc | apply Go.Proofs.Ytnjbobboookfmaa.Ext.R_bytes | apply Kd.R_drewN | apply Kd.R_drew)); exact Kd.R_mono HO_6.out (fun _ hk => hk.2)⟩, ⟨by (with_reducible repeat (first | apply Kd.R_alloc | apply Go.Proofs.Ytnjbobboookfmaa.Ext.R_bytes | apply Kd.R_drewN | apply Kd.R_drew)); exact HO_9.out⟩, ⟨by (with_reducible repeat (first | apply Kd.R_alloc | apply Go.Proofs.Ytnjbobboookfmaa.Ext.R_bytes | apply Kd.R_drewN | apply Kd.R_drew)); exact Kd.R_mono HO161.out (fun _ hk => hk.2)⟩, ⟨by first | exact Kd.R_nil _ _ _ _ _ | exact Kd.N_nil _ _ _ _ _ | exact Kd.V_nil _ _ _ _ _ | exact Kd.Q_nil _ _ _ _ _ | exact Kd.S_nil _ _ _ _ _⟩, ⟨by (with_reducible repeat (first | refine blk_drewN ?_ _ | refine blk_drew ?_ | refine blk_alloc ?_ _)); exact BK147.out⟩, ⟨by repeat (first | (with_reducible first | exact HB.out | apply below_alloc | apply Go.Proofs.Ytnjbobboookfmaa.Ext.below_bytes | apply pw_below_drewN | apply below_drew1 | refine below_set ?_ GE147.out) | exact HB.out)⟩⟩
                    case round =>
                      clear H'
                      try clear c1
                      try clear p1
                      try clear q1
                      try clear hx1
                      try clear c2
                      try clear p2
                      try clear c3
                      try clear c3b0
                      try clear c4
                      try clear c4b0
                      try clear c5
                      try clear c5b0
                      try clear c6
                      try clear p6
                      try clear c9
                      try clear c10
                      try clear c10b0
                      try clear c10b1
                      try clear c13
                      try clear c13b0
                      try clear p13
                      try clear q13
                      try clear hx13
                      try clear p15
                      try clear q15
                      try clear hx15
                      try clear c16
                      try clear c16b0
                      try clear c24
                      try clear c24b0
                      try clear c25
                      try clear c25b0
                      try clear c26
                      try clear c26b0
                      try clear c27
                      try clear c28
                      try clear c29
                      try clear c32
                      try clear hcz21_0
                      try clear hcz21_1
                      try clear hcz21_2
                      try clear hcz21_3
                      try clear hcz21_4
                      try clear hcz21_5
                      try clear hcz28_0
                      try clear hcz28_1
                      try clear hcz28_2
                      try clear hcz28_3
                      try clear hcz28_4
                      try clear hcz28_5
                      try clear hcz31_0
                      try clear hcz31_1
                      try clear hcz31_2
                      try clear hcz31_3
                      try clear hcz31_4
                      try clear hcz31_5
                      try clear hcz33_0
                      try clear hcz33_1
                      try clear hcz33_2
                      try clear hcz33_3
                      try clear hcz33_4
                      try clear hcz33_5
                      try clear hcz39_0
                      try clear hcz39_1
                      try clear hcz39_2
                      try clear hcz39_3
                      try clear hcz39_4
                      try clear hcz39_5
                      try clear hfz21_0
                      try clear hfz21_1
                      try clear hfz21_2
                      try clear hfz21_3
                      try clear hfz21_4
                      try clear hfz21_5
                      try clear hfz28_0
                      try clear hfz28_1
                      try clear hfz28_2
                      try clear hfz28_3
                      try clear hfz28_4
                      try clear hfz28_5
                      try clear hfz31_0
                      try clear hfz31_1
                      try clear hfz31_2
                      try clear hfz31_3
                      try clear hfz31_4
                      try clear hfz31_5
                      try clear hfz33_0
                      try clear hfz33_1
                      try clear hfz33_2
                      try clear hfz33_3
                      try clear hfz33_4
                      try clear hfz33_5
                      try clear hfz39_0
                      try clear hfz39_1
                      try clear hfz39_2
                      try clear hfz39_3
                      try clear hfz39_4
                      try clear hfz39_5
                      try clear hx136_0
                      try clear hx152_0
                      try clear p1
                      try clear p13
                      try clear p136
                      try clear p152
                      try clear p2
                      try clear p6
                      try clear q1
                      try clear q13
                      try clear q136
                      try clear q152
                      obtain ⟨x64_4, x148005_4, u148005, rfl, HA, HK4, HO_5, HO_6, HO_9, HO_62, HO_148005, BK147, HB⟩ := hrel
                      cases gk with
                      | zero => exact absurd HA.out (by simp [impl_AskParams.l2])
                      | succ k4 =>
                        have H := HA.out
                        clear HA
                        simp only [impl_AskParams.l2] at H
                        by_cases c42 : x64_4 < (t159.length : Int)
                        · rw [if_pos c42] at H
                          have c42b0 : decide (x64_4 < (t159.length : Int)) = true := decide_eq_true c42
                          clear c42
                          by_cases c43 : 0 ≤ x64_4
                          · rw [if_pos c43] at H
                            have c43b0 : decide (0 ≤ x64_4) = true := decide_eq_true c43
                            clear c43
                            by_cases c44 : x64_4 < (t159.length : Int)
                            · rw [if_pos c44] at H
                              have c44b0 : decide (x64_4 < (t159.length : Int)) = true := decide_eq_true c44
                              clear c44
                              by_cases c45 : x148005_4.length < 17592186044416
                              · rw [if_pos c45] at H
                                have LMc45 := Aside0.mk c45
                                clear c45
                                obtain ⟨y153, hy153⟩ : ∃ y_ : List Int, y_ = (x148005_4 ++ [rd t159 x64_4]) := ⟨_, rfl⟩
                                replace H : (impl_AskParams.l2 k4 a1 x5_3 x6_1 x9_7 x10_3 t159 (t159.length : Int) (wrap64 (x64_4 + 1)) t143 t144 t145 t146 false y153) = some (r1, r2) := by first | (rw [hy153]; with_reducible exact H) | (have H2_ := (Option.bind_some _ _).symm.trans H; rw [hy153]; with_reducible exact H2_) | (have H2_ := (Option.bind_some _ _).symm.trans H; with_reducible exact H2_) | with_reducible exact H | (rw [hy153]; exact H) | exact H
                                have Ny153 := Aside0.mk hy153
                                clear hy153
                                have H' := Aside0.mk H
                                clear H
                                have p152 : 0 ≤ (x64_4 : Int) := of_decide_eq_true (by first | (with_reducible assumption) | assumption)
                                have q152 : x64_4 < (t159.length : Int) := of_decide_eq_true (by first | (with_reducible assumption) | assumption)
                                obtain ⟨ad152, e152, hx152_0⟩ := Kd.at_int (Kd.R_reads' HO_62.out).2.2 x64_4 p152 q152
                                cases e152
                                replace p152 := eq_true p152
                                replace q152 := eq_true q152
                                have hcz46_0 : wr.cell? ⟨gb147, 0, none⟩ = some (.int .i64 t143) := (blk_cell BK147.out 0).trans rfl
                                have hcz46_1 : wr.cell? ⟨gb147, 1, none⟩ = some (.bool t144) := (blk_cell BK147.out 1).trans rfl
                                have hcz46_2 : wr.cell? ⟨gb147, 2, none⟩ = some (.bool t145) := (blk_cell BK147.out 2).trans rfl
                                have hcz46_3 : wr.cell? ⟨gb147, 3, none⟩ = some (.int .i64 t146) := (blk_cell BK147.out 3).trans rfl
                                have hcz46_4 : wr.cell? ⟨gb147, 4, none⟩ = some (.bool false) := (blk_cell BK147.out 4).trans rfl
                                have hcz46_5 : wr.cell? ⟨gb147, 5, none⟩ = some (u148005) := (blk_cell BK147.out 5).trans rfl
                                have hfz46_0 := blk_frozen BK147.out 0
                                have hfz46_1 := blk_frozen BK147.out 1
                                have hfz46_2 := blk_frozen BK147.out 2
                                have hfz46_3 := blk_frozen BK147.out 3
                                have hfz46_4 := blk_frozen BK147.out 4
                                have hfz46_5 := blk_frozen BK147.out 5
                                go_wp2_with (first | ((with_reducible refine gate_builtin (b := .append) (xs := #[.tmp 69, .tmp 71]) rfl ?_); at_builtin; refine Kd.R_append (Kd.int .i64) (w0 := w) w.heap.size rfl (.tmp 69) (.tmp 71) 41 2 (.int .i64 0) 8 rfl Try.underlying41 info2 rfl (by decide) (by omega) u148005 x148005_4 (rd t159 x64_4) [.int .i64 (rd t159 x64_4)] (fun _ => True) (fun _ => False) rfl rfl ?aP (fun _ hk => hk.elim) ?aF ?aO ?aB ?aS ?aL ?_; (case aP => exact rfl); (case aB => exact (by repeat (first | (with_reducible first | exact HB.out | apply below_alloc | apply Go.Proofs.Ytnjbobboookfmaa.Ext.below_bytes | apply pw_below_drewN | apply below_drew1 | refine below_set ?_ GE147.out) | exact HB.out))); (case aF => exact (fun _ _ => trivial)); (case aO => exact (by (with_reducible repeat (first | apply Kd.R_alloc | apply Go.Proofs.Ytnjbobboookfmaa.Ext.R_bytes | apply Kd.R_drewN | apply Kd.R_drew)); exact HO_148005.out)); (case aS => exact (below_size (by repeat (first | (with_reducible first | exact HB.out | apply below_alloc | apply Go.Proofs.Ytnjbobboookfmaa.Ext.below_bytes | apply pw_below_drewN | apply below_drew1 | refine below_set ?_ GE147.out) | exact HB.out)))); (case aL => have := LMc45.out; omega); intro v154 w47 ho hb hg hat; rw [← Ny153.out] at ho; have n0_ := Aside0.mk (Kd.S_after (ok := (fun k_ => k_ ≠ gb147)) (by (with_reducible repeat (first | apply Kd.S_alloc | apply Go.Proofs.Ytnjbobboookfmaa.Ext.R_bytes | apply Kd.S_drewN | apply Kd.S_drew)); exact Kd.S_mono HO_5.out (fun _ hk => ⟨hk.2, hk.1⟩)) hg hat); have n1_ := Aside0.mk (Kd.R_over' (by (with_reducible repeat (first | apply Kd.R_alloc | apply Go.Proofs.Ytnjbobboookfmaa.Ext.R_bytes | apply Kd.R_drewN | apply Kd.R_drew)); exact HO_6.out) (Kd.R_typed (by (with_reducible repeat (first | apply Kd.R_alloc | apply Go.Proofs.Ytnjbobboookfmaa.Ext.R_bytes | apply Kd.R_drewN | apply Kd.R_drew)); exact HO_148005.out)) (by decide) hg); have n2_ := Aside0.mk (Kd.R_over' (by (with_reducible repeat (first | apply Kd.R_alloc | apply Go.Proofs.Ytnjbobboookfmaa.Ext.R_bytes | apply Kd.R_drewN | apply Kd.R_drew)); exact HO_9.out) (Kd.R_typed (by (with_reducible repeat (first | apply Kd.R_alloc | apply Go.Proofs.Ytnjbobboookfmaa.Ext.R_bytes | apply Kd.R_drewN | apply Kd.R_drew)); exact HO_148005.out)) (by decide) hg); have n3_ := Aside0.mk (Kd.R_over' (by (with_reducible repeat (first | apply Kd.R_alloc | apply Go.Proofs.Ytnjbobboookfmaa.Ext.R_bytes | apply Kd.R_drewN | apply Kd.R_drew)); exact HO_62.out) (Kd.R_typed (by (with_reducible repeat (first | apply Kd.R_alloc | apply Go.Proofs.Ytnjbobboookfmaa.Ext.R_bytes | apply Kd.R_drewN | apply Kd.R_drew)); exact HO_148005.out)) (by decide) hg); have n4_ := Aside0.mk (blk_grown (g := gb147) (o := .cells #[.int .i64 t143, .bool t144, .bool t145, .int .i64 t146, .bool false, u148005] 48 (0, 0)) (by (with_reducible repeat (first | refine blk_drewN ?_ _ | refine blk_drew ?_ | refine blk_alloc ?_ _)); exact BK147.out) hg (Kd.R_ne HO_148005.out BK147.out (by decide))); have n5_ := Aside0.mk (hb); have n6_ := Aside0.mk (ho); clear HO_5; clear HO_6; clear HO_9; clear HO_62; clear BK147; clear HB; clear HO_148005; have HO_5 := n0_; have HO_6 := n1_; have HO_9 := n2_; have HO_62 := n3_; have BK147 := n4_; have HB := n5_; have HO155 := n6_; clear n0_ n1_ n2_ n3_ n4_ n5_ n6_; clear ho hb hg hat; obtain ⟨Ao48, co48, eo48⟩ := Kd.R_slice HO155.out; subst eo48; have hcz49_0 : w47.cell? ⟨gb147, 0, none⟩ = some (.int .i64 t143) := (blk_cell BK147.out 0).trans rfl; have hcz49_1 : w47.cell? ⟨gb147, 1, none⟩ = some (.bool t144) := (blk_cell BK147.out 1).trans rfl; have hcz49_2 : w47.cell? ⟨gb147, 2, none⟩ = some (.bool t145) := (blk_cell BK147.out 2).trans rfl; have hcz49_3 : w47.cell? ⟨gb147, 3, none⟩ = some (.int .i64 t146) := (blk_cell BK147.out 3).trans rfl; have hcz49_4 : w47.cell? ⟨gb147, 4, none⟩ = some (.bool false) := (blk_cell BK147.out 4).trans rfl; have hcz49_5 : w47.cell? ⟨gb147, 5, none⟩ = some (u148005) := (blk_cell BK147.out 5).trans rfl; have hfz49_0 := blk_frozen BK147.out 0; have hfz49_1 := blk_frozen BK147.out 1; have hfz49_2 := blk_frozen BK147.out 2; have hfz49_3 := blk_frozen BK147.out 3; have hfz49_4 := blk_frozen BK147.out 4; have hfz49_5 := blk_frozen BK147.out 5))
                                go_roundg k4
                                case measure => have := HK1.out; have := HJ7.out; have := HK3.out; have := HK4.out; omega
                                case rel => exact ⟨(wrap64 (x64_4 + 1)), (y153), (.slice Ao48 y153.length co48), (by first | rfl | (simp; done) | (simp [*]; done)), H', ⟨by have := HK1.out; have := HJ7.out; have := HK3.out; have := HK4.out; omega⟩, ⟨by (with_reducible repeat (first | apply Kd.S_alloc | apply Go.Proofs.Ytnjbobboookfmaa.Ext.R_bytes | apply Kd.S_drewN | apply Kd.S_drew)); exact Kd.S_mono (Kd.S_far (p := ⟨gb147, 5, none⟩) (Kd.S_mono HO_5.out (fun k_ hk => (⟨hk, hk.1⟩ : _ ∧ k_ ≠ gb147))) (fun _ hk => hk.2) (.slice Ao48 y153.length co48)) (fun _ hk => ⟨hk.1.2, hk.1.1⟩)⟩, ⟨by (with_reducible repeat (first | apply Kd.R_alloc | apply Go.Proofs.Ytnjbobboookfmaa.Ext.R_bytes | apply Kd.R_drewN | apply Kd.R_drew)); exact Kd.R_mono (Kd.R_far (p := ⟨gb147, 5, none⟩) (Kd.R_types HO_6.out BK147.out (by decide)) (fun _ hk => hk.2) (.slice Ao48 y153.length co48)) (fun _ hk => hk.1)⟩, ⟨by (with_reducible repeat (first | apply Kd.R_alloc | apply Go.Proofs.Ytnjbobboookfmaa.Ext.R_bytes | apply Kd.R_drewN | apply Kd.R_drew)); exact Kd.R_mono (Kd.R_far (p := ⟨gb147, 5, none⟩) (Kd.R_types HO_9.out BK147.out (by decide)) (fun _ hk => hk.2) (.slice Ao48 y153.length co48)) (fun _ hk => trivial)⟩, ⟨by (with_reducible repeat (first | apply Kd.R_alloc | apply Go.Proofs.Ytnjbobboookfmaa.Ext.R_bytes | apply Kd.R_drewN | apply Kd.R_drew)); exact Kd.R_mono (Kd.R_far (p := ⟨gb147, 5, none⟩) (Kd.R_types HO_62.out BK147.out (by decide)) (fun _ hk => hk.2) (.slice Ao48 y153.length co48)) (fun _ hk => hk.1)⟩, ⟨by (with_reducible repeat (first | apply Kd.R_alloc | apply Go.Proofs.Ytnjbobboookfmaa.Ext.R_bytes | apply Kd.R_drewN | apply Kd.R_drew)); exact Kd.R_mono (Kd.R_far (p := ⟨gb147, 5, none⟩) (Kd.R_types HO155.out BK147.out (by decide)) (fun _ hk => hk.2) (.slice Ao48 y153.length co48)) (fun _ hk => trivial)⟩, ⟨by (with_reducible repeat (first | refine blk_drewN ?_ _ | refine blk_drew ?_ | refine blk_alloc ?_ _)); refine blk_put (cs := #[.int .i64 t143, .bool t144, .bool t145, .int .i64 t146, .bool false, u148005]) ?_ 5 _ rfl; (with_reducible repeat (first | refine blk_drewN ?_ _ | refine blk_drew ?_ | refine blk_alloc ?_ _)); exact BK147.out⟩, ⟨by repeat (first | (with_reducible first | exact HB.out | apply below_alloc | apply Go.Proofs.Ytnjbobboookfmaa.Ext.below_bytes | apply pw_below_drewN | apply below_drew1 | refine below_set ?_ GE147.out) | exact HB.out)⟩⟩
                              · rw [if_neg c45] at H
                                exact absurd H (by simp)
                            · rw [if_neg c44] at H
                              exact absurd H (by simp)
                          · rw [if_neg c43] at H
                            exact absurd H (by simp)
                        · rw [if_neg c42] at H
                          have c42b0 : decide (x64_4 < (t159.length : Int)) = false := decide_eq_false c42
                          clear c42
                          by_cases c50 : x5_3.length < 2513169434916
                          · rw [if_pos c50] at H
                            have LMc50 := Aside0.mk c50
                            clear c50
                            obtain ⟨y156, hy156⟩ : ∃ y_ : List (S48), y_ = (x5_3 ++ [(⟨t143, t144, t145, t146, false, x148005_4⟩ : S48)]) := ⟨_, rfl⟩
                            replace H : (impl_AskParams.l1 k4 a1 y156 x6_1 x9_7 (wrap64 (x10_3 + 1))) = some (r1, r2) := by first | (rw [hy156]; with_reducible exact H) | (have H2_ := (Option.bind_some _ _).symm.trans H; rw [hy156]; with_reducible exact H2_) | (have H2_ := (Option.bind_some _ _).symm.trans H; with_reducible exact H2_) | with_reducible exact H | (rw [hy156]; exact H) | exact H
                            have Ny156 := Aside0.mk hy156
                            clear hy156
                            have H' := Aside0.mk H
                            clear H
                            have hcz51_0 : wr.cell? ⟨gb147, 0, none⟩ = some (.int .i64 t143) := (blk_cell BK147.out 0).trans rfl
                            have hcz51_1 : wr.cell? ⟨gb147, 1, none⟩ = some (.bool t144) := (blk_cell BK147.out 1).trans rfl
                            have hcz51_2 : wr.cell? ⟨gb147, 2, none⟩ = some (.bool t145) := (blk_cell BK147.out 2).trans rfl
                            have hcz51_3 : wr.cell? ⟨gb147, 3, none⟩ = some (.int .i64 t146) := (blk_cell BK147.out 3).trans rfl
                            have hcz51_4 : wr.cell? ⟨gb147, 4, none⟩ = some (.bool false) := (blk_cell BK147.out 4).trans rfl
                            have hcz51_5 : wr.cell? ⟨gb147, 5, none⟩ = some (u148005) := (blk_cell BK147.out 5).trans rfl
                            have hfz51_0 := blk_frozen BK147.out 0
                            have hfz51_1 := blk_frozen BK147.out 1
                            have hfz51_2 := blk_frozen BK147.out 2
                            have hfz51_3 := blk_frozen BK147.out 3
                            have hfz51_4 := blk_frozen BK147.out 4
                            have hfz51_5 := blk_frozen BK147.out 5
                            obtain ⟨Ao53, co53, eo53⟩ := Kd.R_slice HO_148005.out
                            subst eo53
                            go_wp2_with (first | ((with_reducible refine gate_builtin (b := .append) (xs := #[.tmp 75, .tmp 77]) rfl ?_); at_builtin; refine Kd.S_append k48 (w0 := w) w.heap.size rfl (.tmp 75) (.tmp 77) 42 48 (.agg #[(.int .i64 0), (.bool false), (.bool false), (.int .i64 0), (.bool false), (.slice none 0 0)]) 56 rfl Try.underlying42 info48 rfl (by decide) (by omega) u5 x5_3 (⟨t143, t144, t145, t146, false, x148005_4⟩ : S48) [.int .i64 t143, .bool t144, .bool t145, .int .i64 t146, .bool false, .slice Ao53 x148005_4.length co53] (fun k_ => k_ ≠ gb147) (fun k_ => some k_ = (.slice Ao53 x148005_4.length co53 : Value).ownBlock) rfl rfl ?aP (fun k_ hk_ => ((Kd.R_mono (ok' := fun k_ => ((fun k_ => k_ ≠ gb147)) k_ ∧ some k_ ≠ (u5 : Value).ownBlock) (Kd.R_types (Kd.R_apart' (HO_148005.out) (Kd.S_typed HO_5.out) (by decide)) BK147.out (by decide)) (fun k_ hk => ⟨hk.2, hk.1.2⟩))).1 k_ hk_.symm) ?aF ?aO ?aB ?aS ?aL ?_; (case aP => exact k48_mkM _ _ _ (⟨t143, t144, t145, t146, false, x148005_4⟩ : S48) (Kd.R_mono (Kd.R_tight rfl (Kd.R_mono (ok' := fun k_ => ((fun k_ => k_ ≠ gb147)) k_ ∧ some k_ ≠ (u5 : Value).ownBlock) (Kd.R_types (Kd.R_apart' (HO_148005.out) (Kd.S_typed HO_5.out) (by decide)) BK147.out (by decide)) (fun k_ hk => ⟨hk.2, hk.1.2⟩))) (fun _ h_ => h_))); (case aB => exact (by repeat (first | (with_reducible first | exact HB.out | apply below_alloc | apply Go.Proofs.Ytnjbobboookfmaa.Ext.below_bytes | apply pw_below_drewN | apply below_drew1 | refine below_set ?_ GE147.out) | exact HB.out))); (case aF => exact (fun k_ hk => Kd.freshB (g := gb147) (o := .cells #[.int .i64 t143, .bool t144, .bool t145, .int .i64 t146, .bool false, .slice Ao53 x148005_4.length co53] 48 (0, 0)) (by (with_reducible repeat (first | refine blk_drewN ?_ _ | refine blk_drew ?_ | refine blk_alloc ?_ _)); exact BK147.out) k_ hk)); (case aO => exact (by (with_reducible repeat (first | apply Kd.S_alloc | apply Go.Proofs.Ytnjbobboookfmaa.Ext.R_bytes | apply Kd.S_drewN | apply Kd.S_drew)); exact Kd.S_mono HO_5.out (fun k_ hk => ⟨hk.2, fun e_ => hk.1 e_⟩))); (case aS => exact (below_size (by repeat (first | (with_reducible first | exact HB.out | apply below_alloc | apply Go.Proofs.Ytnjbobboookfmaa.Ext.below_bytes | apply pw_below_drewN | apply below_drew1 | refine below_set ?_ GE147.out) | exact HB.out)))); (case aL => have := LMc50.out; omega); intro v157 w52 ho hb hg hat; rw [← Ny156.out] at ho; have n0_ := Aside0.mk (Kd.R_over' (by (with_reducible repeat (first | apply Kd.R_alloc | apply Go.Proofs.Ytnjbobboookfmaa.Ext.R_bytes | apply Kd.R_drewN | apply Kd.R_drew)); exact HO_6.out) (Kd.S_typed (by (with_reducible repeat (first | apply Kd.S_alloc | apply Go.Proofs.Ytnjbobboookfmaa.Ext.R_bytes | apply Kd.S_drewN | apply Kd.S_drew)); exact HO_5.out)) (by decide) hg); have n1_ := Aside0.mk (Kd.R_over' (by (with_reducible repeat (first | apply Kd.R_alloc | apply Go.Proofs.Ytnjbobboookfmaa.Ext.R_bytes | apply Kd.R_drewN | apply Kd.R_drew)); exact HO_9.out) (Kd.S_typed (by (with_reducible repeat (first | apply Kd.S_alloc | apply Go.Proofs.Ytnjbobboookfmaa.Ext.R_bytes | apply Kd.S_drewN | apply Kd.S_drew)); exact HO_5.out)) (by decide) hg); have n2_ := Aside0.mk (Kd.R_over' (by (with_reducible repeat (first | apply Kd.R_alloc | apply Go.Proofs.Ytnjbobboookfmaa.Ext.R_bytes | apply Kd.R_drewN | apply Kd.R_drew)); exact HO_62.out) (Kd.S_typed (by (with_reducible repeat (first | apply Kd.S_alloc | apply Go.Proofs.Ytnjbobboookfmaa.Ext.R_bytes | apply Kd.S_drewN | apply Kd.S_drew)); exact HO_5.out)) (by decide) hg); have n3_ := Aside0.mk (blk_grown (g := gb147) (o := .cells #[.int .i64 t143, .bool t144, .bool t145, .int .i64 t146, .bool false, .slice Ao53 x148005_4.length co53] 48 (0, 0)) (by (with_reducible repeat (first | refine blk_drewN ?_ _ | refine blk_drew ?_ | refine blk_alloc ?_ _)); exact BK147.out) hg (Kd.S_away HO_5.out (fun _ hk => hk.2))); have n4_ := Aside0.mk (hb); have n5_ := Aside0.mk (ho); clear HO_6; clear HO_9; clear HO_62; clear BK147; clear HB; clear HO_5; clear HO_148005; have HO_6 := n0_; have HO_9 := n1_; have HO_62 := n2_; have BK147 := n3_; have HB := n4_; have HO158 := n5_; clear n0_ n1_ n2_ n3_ n4_ n5_; clear ho hb hg hat))
                            go_roundg k4
                            case measure => have := HK1.out; have := HJ7.out; have := HK3.out; have := HK4.out; omega
                            case rel => exact ⟨(y156), (wrap64 (x10_3 + 1)), (by first | rfl | (simp; done) | (simp [*]; done)), H', ⟨by have := HK1.out; have := HJ7.out; have := HK3.out; have := HK4.out; omega⟩, ⟨by (with_reducible repeat (first | apply Kd.S_alloc | apply Go.Proofs.Ytnjbobboookfmaa.Ext.R_bytes | apply Kd.S_drewN | apply Kd.S_drew)); exact Kd.S_mono HO158.out (fun _ hk => trivial)⟩, ⟨by (with_reducible repeat (first | apply Kd.R_alloc | apply Go.Proofs.Ytnjbobboookfmaa.Ext.R_bytes | apply Kd.R_drewN | apply Kd.R_drew)); exact Kd.R_mono HO_6.out (fun _ hk => trivial)⟩, ⟨by (with_reducible repeat (first | apply Kd.R_alloc | apply Go.Proofs.Ytnjbobboookfmaa.Ext.R_bytes | apply Kd.R_drewN | apply Kd.R_drew)); exact HO_9.out⟩, ⟨by repeat (first | (with_reducible first | exact HB.out | apply below_alloc | apply Go.Proofs.Ytnjbobboookfmaa.Ext.below_bytes | apply pw_below_drewN | apply below_drew1 | refine below_set ?_ GE147.out) | exact HB.out)⟩⟩
                          · rw [if_neg c50] at H
                            exact absurd H (by simp)
                · rw [if_neg c13] at H
                  have c13b0 : decide (x10_3 ≤ (x6_1.length : Int)) = false := decide_eq_false c13
                  clear c13
                  replace H := Option.bind_eq_some_iff.mp H
                  obtain ⟨t162, A540, H⟩ := H
                  replace H : (some (t162, x5_3)) = some (r1, r2) := H
                  have A54 := Aside0.mk A540
                  clear A540
                  simp only [Option.some.injEq, Prod.mk.injEq] at H
                  obtain ⟨rfl, rfl⟩ := H
                  go_wp2_with (first | ((with_reducible refine gate_callee (f := 30) rfl ?_); refine goesL_ (some 80) rfl rfl Try.func30 (by kernel_rfl) rfl #[.slice Ao9 x6_1.length co9] rfl (by (try simp only [List.map_toArray, List.map_cons, List.map_nil]); first | done | rfl | (simp only [List.length_drop, List.length_take]; rfl) | (simp [Act.eval, *]; done) | (simp [Act.eval, *]; unfold wrap64; omega)) ?_; (with_reducible refine (parser_Len.calls k3 _ _ x6_1 t162 _ ?side1 ?side2 A54.out).mono ?_); (case side1 => repeat (first | exact (Kd.R_reads' HO_6.out).2.2 | (with_reducible refine Kd.C_alloc ?_ _) | (with_reducible refine Kd.C_drewN ?_ _) | (with_reducible refine Kd.C_drew ?_))); (case side2 => exact (Kd.R_reads' HO_6.out).2.1); rintro e w' ⟨rfl, ⟨nd, rfl⟩⟩; refine ⟨_, rfl, ?_⟩))
                  go_ret2
                  exact ⟨_, by first | rfl | (simp [errW_none, errW_some] <;> rfl) | (simp [*, errW_none, errW_some] <;> rfl), by (with_reducible repeat (first | apply Kd.S_alloc | apply Go.Proofs.Ytnjbobboookfmaa.Ext.R_bytes | apply Kd.S_drewN | apply Kd.S_drew)); exact HO_5.out, by repeat (first | (with_reducible first | exact HB.out | apply below_alloc | apply Go.Proofs.Ytnjbobboookfmaa.Ext.below_bytes | apply pw_below_drewN | apply below_drew1) | exact HB.out)⟩

/-! ### spec_More: function 13 -/
def spec_More.f (a0 : Int) : Option (Bool) := some ((Go.bits .and .i64 a0 (-2147483648)) != 0)
set_option maxHeartbeats 8000000 in
set_option maxRecDepth 100000 in
theorem spec_More.calls (a0 : Int) (r : Bool) (w : World) (h : spec_More.f a0 = some r) :
    Calls Try.prog 13 #[.int .i64 a0] w fun e w' => e = .returned (.bool r) ∧ Drawn0 w w' := by
  have H : (some ((Go.bits .and .i64 a0 (-2147483648)) != 0)) = some r := h
  clear h
  obtain rfl := Option.some.inj H
  go_enter Try.func13, Try.ntmps13
  go_wp2
  go_ret
  exact ⟨by first | rfl | (simp; done) | (simp [*]; done), by repeat (first | exact Drawn0.refl _ | apply Drawn0.step)⟩

/-! ### spec_Whole: function 10 -/
def spec_Whole.l0 : Nat → Int → List Int → Int → Int → Option (Int)
  | 0, _, _, _, _ => none
  | k + 1, x3, x6, x7, x8 => if x8 < x7 then (if 0 ≤ x8 then (if x8 < (x6.length : Int) then ((spec_More.f (rd x6 x8)).bind fun t164 => (if t164 = true then (spec_Whole.l0 k x3 x6 x7 (wrap64 (x8 + 1))) else (spec_Whole.l0 k (wrap64 (x3 + 1)) x6 x7 (wrap64 (x8 + 1))))) else (none)) else (none)) else (some x3)
def spec_Whole.f (k : Nat) (l0 : List Int) : Option (Int) := spec_Whole.l0 k 0 l0 (l0.length : Int) 0
theorem spec_Whole.mono_l : ∀ k, (∀ y0 y1 y2 y3, LeO (spec_Whole.l0 k y0 y1 y2 y3) (spec_Whole.l0 (k + 1) y0 y1 y2 y3))
  | 0 => fun _ _ _ _ r h => by simp [spec_Whole.l0] at h
  | k + 1 => by
    have ih0 := spec_Whole.mono_l k
    · intro y0 y1 y2 y3
      unfold spec_Whole.l0
      repeat' first
      | (with_reducible exact ih0 _ _ _ _)
      | (with_reducible exact LeO.refl _)
      | (with_reducible exact LeO.none _)
      | (with_reducible refine LeO.ite ?_ ?_)
      | (with_reducible refine LeO.bind ?_ (fun _ => ?_))
      | exact ih0 _ _ _ _
      | exact LeO.none _
      | refine LeO.ite ?_ ?_
      | refine LeO.bind ?_ (fun _ => ?_)
theorem spec_Whole.mono : ∀ a0 k, LeO (spec_Whole.f k a0) (spec_Whole.f (k + 1) a0) := by
  intro a0 k
  have ih0 := spec_Whole.mono_l k
  unfold spec_Whole.f
  repeat' first
      | (with_reducible exact ih0 _ _ _ _)
      | (with_reducible exact LeO.refl _)
      | (with_reducible exact LeO.none _)
      | (with_reducible refine LeO.ite ?_ ?_)
      | (with_reducible refine LeO.bind ?_ (fun _ => ?_))
      | exact ih0 _ _ _ _
      | exact LeO.none _
      | refine LeO.ite ?_ ?_
      | refine LeO.bind ?_ (fun _ => ?_)
set_option maxHeartbeats 8000000 in
set_option maxRecDepth 100000 in
theorem spec_Whole.calls (k : Nat) (A0 : Option Addr) (c0 : Nat) (l0 : List Int) (r : Int) (w : World) (hr0 : Kd.C (Kd.int .i64) w A0 l0.length l0) (hc0 : l0.length ≤ c0) (h : spec_Whole.f k l0 = some r) :
    Calls Try.prog 10 #[.slice A0 l0.length c0] w fun e w' => e = .returned (.int .i64 r) ∧ Drawn0 w w' := by
  have HR0 := Aside0.mk hr0
  have HC0 := Aside0.mk hc0
  clear hr0 hc0
  have H : (spec_Whole.l0 k 0 l0 (l0.length : Int) 0) = some r := h
  clear h
  have H' := Aside0.mk H
  clear H
  go_enter Try.func10, Try.ntmps10
  go_wp2
  go_loopg [3, 8] k (fun kq v3 v8 w' => ∃ (x3_1 : Int) (x8_1 : Int), v3 = .int .i64 x3_1 ∧ v8 = .int .i64 x8_1 ∧ Aside0 (spec_Whole.l0 kq x3_1 l0 (l0.length : Int) x8_1 = some r) ∧ Aside0 (kq ≤ k) ∧ Drawn0 w w')
  case atStart => exact ⟨(0), (0), (by first | rfl | (simp; done) | (simp [*]; done)), (by first | rfl | (simp; done) | (simp [*]; done)), H', ⟨Nat.le_refl _⟩, by repeat (first | exact Drawn0.refl _ | apply Drawn0.step)⟩
  case round =>
    clear H'
    try clear c1
    obtain ⟨x3_1, x8_1, rfl, rfl, HA, HK1, ⟨m1, rfl⟩⟩ := hrel
    cases gk with
    | zero => exact absurd HA.out (by simp [spec_Whole.l0])
    | succ k1 =>
      have H := HA.out
      clear HA
      simp only [spec_Whole.l0] at H
      by_cases c2 : x8_1 < (l0.length : Int)
      · rw [if_pos c2] at H
        have c2b0 : decide (x8_1 < (l0.length : Int)) = true := decide_eq_true c2
        clear c2
        by_cases c3 : 0 ≤ x8_1
        · rw [if_pos c3] at H
          have c3b0 : decide (0 ≤ x8_1) = true := decide_eq_true c3
          clear c3
          by_cases c4 : x8_1 < (l0.length : Int)
          · rw [if_pos c4] at H
            have c4b0 : decide (x8_1 < (l0.length : Int)) = true := decide_eq_true c4
            clear c4
            replace H := Option.bind_eq_some_iff.mp H
            obtain ⟨t164, A50, H⟩ := H
            replace H : (if t164 = true then (spec_Whole.l0 k1 x3_1 l0 (l0.length : Int) (wrap64 (x8_1 + 1))) else (spec_Whole.l0 k1 (wrap64 (x3_1 + 1)) l0 (l0.length : Int) (wrap64 (x8_1 + 1)))) = some r := H
            have A5 := Aside0.mk A50
            clear A50
            by_cases c6 : t164 = true
            · subst c6
              have H1 : (spec_Whole.l0 k1 x3_1 l0 (l0.length : Int) (wrap64 (x8_1 + 1))) = some r := by rw [if_pos rfl] at H; exact H
              clear H
              have H := H1
              clear H1
              have H' := Aside0.mk H
              clear H
              have p163 : 0 ≤ (x8_1 : Int) := of_decide_eq_true (by first | (with_reducible assumption) | assumption)
              have q163 : x8_1 < (l0.length : Int) := of_decide_eq_true (by first | (with_reducible assumption) | assumption)
              obtain ⟨ad163, e163, hx163_0⟩ := Kd.at_int HR0.out x8_1 p163 q163
              cases e163
              replace p163 := eq_true p163
              replace q163 := eq_true q163
              go_wp2_with (first | ((with_reducible refine gate_callee (f := 13) rfl ?_); refine goesL_ (some 13) rfl rfl Try.func13 (by kernel_rfl) rfl #[.int .i64 (rd l0 x8_1)] rfl (by (try simp only [List.map_toArray, List.map_cons, List.map_nil]); first | done | rfl | (simp only [List.length_drop, List.length_take]; rfl) | (simp [Act.eval, *]; done) | (simp [Act.eval, *]; unfold wrap64; omega)) ?_; (with_reducible refine (spec_More.calls (rd l0 x8_1) true _ A5.out).mono ?_); rintro e w' ⟨rfl, ⟨nd, rfl⟩⟩; refine ⟨_, rfl, ?_⟩))
              go_roundg k1
              case measure => have := HK1.out; omega
              case rel => exact ⟨(x3_1), (wrap64 (x8_1 + 1)), (by first | rfl | (simp; done) | (simp [*]; done)), (by first | rfl | (simp; done) | (simp [*]; done)), H', ⟨by have := HK1.out; omega⟩, by repeat (first | exact Drawn0.refl _ | apply Drawn0.step)⟩
            · replace c6 := Bool.eq_false_iff.mpr c6
              subst c6
              have H1 : (spec_Whole.l0 k1 (wrap64 (x3_1 + 1)) l0 (l0.length : Int) (wrap64 (x8_1 + 1))) = some r := by rw [if_neg (show ¬ (false = true) by decide)] at H; exact H
              clear H
              have H := H1
              clear H1
              have H' := Aside0.mk H
              clear H
              have p163 : 0 ≤ (x8_1 : Int) := of_decide_eq_true (by first | (with_reducible assumption) | assumption)
              have q163 : x8_1 < (l0.length : Int) := of_decide_eq_true (by first | (with_reducible assumption) | assumption)
              obtain ⟨ad163, e163, hx163_0⟩ := Kd.at_int HR0.out x8_1 p163 q163
              cases e163
              replace p163 := eq_true p163
              replace q163 := eq_true q163
              go_wp2_with (first | ((with_reducible refine gate_callee (f := 13) rfl ?_); refine goesL_ (some 13) rfl rfl Try.func13 (by kernel_rfl) rfl #[.int .i64 (rd l0 x8_1)] rfl (by (try simp only [List.map_toArray, List.map_cons, List.map_nil]); first | done | rfl | (simp only [List.length_drop, List.length_take]; rfl) | (simp [Act.eval, *]; done) | (simp [Act.eval, *]; unfold wrap64; omega)) ?_; (with_reducible refine (spec_More.calls (rd l0 x8_1) false _ A5.out).mono ?_); rintro e w' ⟨rfl, ⟨nd, rfl⟩⟩; refine ⟨_, rfl, ?_⟩))
              go_roundg k1
              case measure => have := HK1.out; omega
              case rel => exact ⟨(wrap64 (x3_1 + 1)), (wrap64 (x8_1 + 1)), (by first | rfl | (simp; done) | (simp [*]; done)), (by first | rfl | (simp; done) | (simp [*]; done)), H', ⟨by have := HK1.out; omega⟩, by repeat (first | exact Drawn0.refl _ | apply Drawn0.step)⟩
          · rw [if_neg c4] at H
            exact absurd H (by simp)
        · rw [if_neg c3] at H
          exact absurd H (by simp)
      · rw [if_neg c2] at H
        have c2b0 : decide (x8_1 < (l0.length : Int)) = false := decide_eq_false c2
        clear c2
        obtain rfl := Option.some.inj H
        go_wp2
        go_ret
        exact ⟨by first | rfl | (simp; done) | (simp [*]; done), by repeat (first | exact Drawn0.refl _ | apply Drawn0.step)⟩

/-! ### xansi_Command: function 35 -/
def xansi_Command.f (a0 : Int) (a1 : Int) (a2 : Int) : Option (Int) := some (Go.bits .or .i64 (Go.bits .or .i64 (wrap64 (a2)) (wrap64 ((wrap64 (a0)) * 256))) (wrap64 ((wrap64 (a1)) * 65536)))
set_option maxHeartbeats 8000000 in
set_option maxRecDepth 100000 in
theorem xansi_Command.calls (a0 : Int) (a1 : Int) (a2 : Int) (r : Int) (w : World) (h : xansi_Command.f a0 a1 a2 = some r) :
    Calls Try.prog 35 #[.int .u8 a0, .int .u8 a1, .int .u8 a2] w fun e w' => e = .returned (.int .i64 r) ∧ Drawn0 w w' := by
  have H : (some (Go.bits .or .i64 (Go.bits .or .i64 (wrap64 (a2)) (wrap64 ((wrap64 (a0)) * 256))) (wrap64 ((wrap64 (a1)) * 65536)))) = some r := h
  clear h
  obtain rfl := Option.some.inj H
  go_enter Try.func35, Try.ntmps35
  go_wp2
  go_ret
  exact ⟨by first | rfl | (simp; done) | (simp [*]; done), by repeat (first | exact Drawn0.refl _ | apply Drawn0.step)⟩

/-! ### impl_Pack: function 31 -/
def impl_Pack.f (a0 : Int) (a1 : Int) (a2 : Int) : Option (Int) := (xansi_Command.f a0 a1 a2).bind fun t165 => (some t165)
set_option maxHeartbeats 8000000 in
set_option maxRecDepth 100000 in
theorem impl_Pack.calls (a0 : Int) (a1 : Int) (a2 : Int) (r : Int) (w : World) (h : impl_Pack.f a0 a1 a2 = some r) :
    Calls Try.prog 31 #[.int .u8 a0, .int .u8 a1, .int .u8 a2] w fun e w' => e = .returned (.int .i64 r) ∧ Drawn0 w w' := by
  have H : ((xansi_Command.f a0 a1 a2).bind fun t165 => (some t165)) = some r := h
  clear h
  replace H := Option.bind_eq_some_iff.mp H
  obtain ⟨t165, A40, H⟩ := H
  replace H : (some t165) = some r := H
  have A4 := Aside0.mk A40
  clear A40
  obtain rfl := Option.some.inj H
  go_enter Try.func31, Try.ntmps31
  go_wp2_with (first | ((with_reducible refine gate_callee (f := 35) rfl ?_); refine goesL_ (some 10) rfl rfl Try.func35 (by kernel_rfl) rfl #[.int .u8 a0, .int .u8 a1, .int .u8 a2] rfl (by (try simp only [List.map_toArray, List.map_cons, List.map_nil]); first | done | rfl | (simp only [List.length_drop, List.length_take]; rfl) | (simp [Act.eval, *]; done) | (simp [Act.eval, *]; unfold wrap64; omega)) ?_; (with_reducible refine (xansi_Command.calls a0 a1 a2 t165 _ A4.out).mono ?_); rintro e w' ⟨rfl, ⟨nd, rfl⟩⟩; refine ⟨_, rfl, ?_⟩))
  go_ret
  exact ⟨by first | rfl | (simp; done) | (simp [*]; done), by repeat (first | exact Drawn0.refl _ | apply Drawn0.step)⟩

end Go.Proofs.Ytnjbobboookfmaa.PE
