-- Written by wip/pp.py, a program of this session, out of the translation. Not trusted: Lean checks it.
import Derived.Test.YtnjbobboookfmaaPEx0
import Derived.Test.YtnjbobboookfmaaPEx1
namespace Go.Proofs.Ytnjbobboookfmaa.PE
open Go.RowKit Go.Proofs.YtnjbobboookfmaaW.PrintWords Go.Proofs.YtnjbobboookfmaaW.PrintLast Go.Proofs.YtnjbobboookfmaaW.PrintMore
attribute [local go_sem] max2_int min2_int max_two min_two max_three min_three max_four min_four   -- for this text's walks alone
attribute [local go_sem] Go.Proofs.Ytnjbobboookfmaa.Ext.wrap64_mod256 Go.Proofs.Ytnjbobboookfmaa.Ext.wrap64_mod32 Go.Proofs.Ytnjbobboookfmaa.Ext.i64_mod256 Go.Proofs.Ytnjbobboookfmaa.Ext.i64_mod32 Go.Proofs.Ytnjbobboookfmaa.Ext.i64_u8 Go.Proofs.Ytnjbobboookfmaa.Ext.w64_u8 Go.Proofs.Ytnjbobboookfmaa.Ext.i64_u32 Go.Proofs.Ytnjbobboookfmaa.Ext.w64_u32 
set_option linter.unusedVariables false
set_option linter.unusedSimpArgs false

/-! ### parser_Subparams: function 29 -/
mutual
def parser_Subparams.j0 : Nat → List Int → Int → Bool → Option (List Int)
  | 0, _, _, _ => none
  | k + 1, x0, x1, x22 => if x22 = true then (some ([] : List Int)) else (parser_Subparams.l0 k x0 x1 0 0 (x0.length : Int) 0)
def parser_Subparams.j2 : Nat → List Int → Int → Int → Int → Option (List Int)
  | 0, _, _, _, _ => none
  | k + 1, x0, x1, x5, x6 => if x5 > x1 then (parser_Subparams.j3 k x0 x6 true) else (parser_Subparams.j3 k x0 x6 (decide (x6 ≥ (x0.length : Int))))
def parser_Subparams.j3 : Nat → List Int → Int → Bool → Option (List Int)
  | 0, _, _, _ => none
  | k + 1, x0, x6, x46 => if x46 = true then (some ([] : List Int)) else (parser_Subparams.l1 k x0 x6 ([] : List Int))
def parser_Subparams.l1 : Nat → List Int → Int → List Int → Option (List Int)
  | 0, _, _, _ => none
  | k + 1, x0, x6, x7 => if x6 < (x0.length : Int) then ((parser_HasMore.f x0 x6).bind fun t113 => (if t113 = true then ((parser_Param.f x0 x6).bind fun t114 => (if t114 = (-1) then (if x7.length < 17592186044416 then (parser_Subparams.l1 k x0 (wrap64 (x6 + 1)) (x7 ++ [0])) else (none)) else (if x7.length < 17592186044416 then (parser_Subparams.l1 k x0 (wrap64 (x6 + 1)) (x7 ++ [t114])) else (none)))) else ((parser_Param.f x0 x6).bind fun t121 => (if t121 = (-1) then (if x7.length < 17592186044416 then (some (x7 ++ [0])) else (none)) else (if x7.length < 17592186044416 then (some (x7 ++ [t121])) else (none)))))) else ((parser_Param.f x0 x6).bind fun t128 => (if t128 = (-1) then (if x7.length < 17592186044416 then (some (x7 ++ [0])) else (none)) else (if x7.length < 17592186044416 then (some (x7 ++ [t128])) else (none))))
def parser_Subparams.l0 : Nat → List Int → Int → Int → Int → Int → Int → Option (List Int)
  | 0, _, _, _, _, _, _ => none
  | k + 1, x0, x1, x5, x6, x24, x25 => if x25 < x24 then (if x5 = x1 then (parser_Subparams.j2 k x0 x1 x5 x25) else ((parser_HasMore.f x0 x25).bind fun t112 => (if t112 = true then (parser_Subparams.l0 k x0 x1 x5 x25 x24 (wrap64 (x25 + 1))) else (parser_Subparams.l0 k x0 x1 (wrap64 (x5 + 1)) x25 x24 (wrap64 (x25 + 1)))))) else (parser_Subparams.j2 k x0 x1 x5 x6)
end
def parser_Subparams.f (k : Nat) (l0 : List Int) (a1 : Int) : Option (List Int) := if (l0.length : Int) = 0 then (parser_Subparams.j0 k l0 a1 true) else (if a1 < 0 then (parser_Subparams.j0 k l0 a1 true) else (parser_Subparams.j0 k l0 a1 (decide (a1 ≥ (l0.length : Int)))))
theorem parser_Subparams.mono_l : ∀ k, (∀ y0 y1 y2, LeO (parser_Subparams.j0 k y0 y1 y2) (parser_Subparams.j0 (k + 1) y0 y1 y2)) ∧ (∀ y0 y1 y2 y3, LeO (parser_Subparams.j2 k y0 y1 y2 y3) (parser_Subparams.j2 (k + 1) y0 y1 y2 y3)) ∧ (∀ y0 y1 y2, LeO (parser_Subparams.j3 k y0 y1 y2) (parser_Subparams.j3 (k + 1) y0 y1 y2)) ∧ (∀ y0 y1 y2, LeO (parser_Subparams.l1 k y0 y1 y2) (parser_Subparams.l1 (k + 1) y0 y1 y2)) ∧ (∀ y0 y1 y2 y3 y4 y5, LeO (parser_Subparams.l0 k y0 y1 y2 y3 y4 y5) (parser_Subparams.l0 (k + 1) y0 y1 y2 y3 y4 y5))
  | 0 => ⟨fun _ _ _ r h => by simp [parser_Subparams.j0] at h, fun _ _ _ _ r h => by simp [parser_Subparams.j2] at h, fun _ _ _ r h => by simp [parser_Subparams.j3] at h, fun _ _ _ r h => by simp [parser_Subparams.l1] at h, fun _ _ _ _ _ _ r h => by simp [parser_Subparams.l0] at h⟩
  | k + 1 => by
    obtain ⟨ih0, ih1, ih2, ih3, ih4⟩ := parser_Subparams.mono_l k
    refine ⟨?_, ?_, ?_, ?_, ?_⟩
    · intro y0 y1 y2
      unfold parser_Subparams.j0
      repeat' first
      | (with_reducible exact ih0 _ _ _)
      | (with_reducible exact ih1 _ _ _ _)
      | (with_reducible exact ih2 _ _ _)
      | (with_reducible exact ih3 _ _ _)
      | (with_reducible exact ih4 _ _ _ _ _ _)
      | (with_reducible exact LeO.refl _)
      | (with_reducible exact LeO.none _)
      | (with_reducible refine LeO.ite ?_ ?_)
      | (with_reducible refine LeO.bind ?_ (fun _ => ?_))
      | exact ih0 _ _ _
      | exact ih1 _ _ _ _
      | exact ih2 _ _ _
      | exact ih3 _ _ _
      | exact ih4 _ _ _ _ _ _
      | exact LeO.none _
      | refine LeO.ite ?_ ?_
      | refine LeO.bind ?_ (fun _ => ?_)
    · intro y0 y1 y2 y3
      unfold parser_Subparams.j2
      repeat' first
      | (with_reducible exact ih0 _ _ _)
      | (with_reducible exact ih1 _ _ _ _)
      | (with_reducible exact ih2 _ _ _)
      | (with_reducible exact ih3 _ _ _)
      | (with_reducible exact ih4 _ _ _ _ _ _)
      | (with_reducible exact LeO.refl _)
      | (with_reducible exact LeO.none _)
      | (with_reducible refine LeO.ite ?_ ?_)
      | (with_reducible refine LeO.bind ?_ (fun _ => ?_))
      | exact ih0 _ _ _
      | exact ih1 _ _ _ _
      | exact ih2 _ _ _
      | exact ih3 _ _ _
      | exact ih4 _ _ _ _ _ _
      | exact LeO.none _
      | refine LeO.ite ?_ ?_
      | refine LeO.bind ?_ (fun _ => ?_)
    · intro y0 y1 y2
      unfold parser_Subparams.j3
      repeat' first
      | (with_reducible exact ih0 _ _ _)
      | (with_reducible exact ih1 _ _ _ _)
      | (with_reducible exact ih2 _ _ _)
      | (with_reducible exact ih3 _ _ _)
      | (with_reducible exact ih4 _ _ _ _ _ _)
      | (with_reducible exact LeO.refl _)
      | (with_reducible exact LeO.none _)
      | (with_reducible refine LeO.ite ?_ ?_)
      | (with_reducible refine LeO.bind ?_ (fun _ => ?_))
      | exact ih0 _ _ _
      | exact ih1 _ _ _ _
      | exact ih2 _ _ _
      | exact ih3 _ _ _
      | exact ih4 _ _ _ _ _ _
      | exact LeO.none _
      | refine LeO.ite ?_ ?_
      | refine LeO.bind ?_ (fun _ => ?_)
    · intro y0 y1 y2
      unfold parser_Subparams.l1
      repeat' first
      | (with_reducible exact ih0 _ _ _)
      | (with_reducible exact ih1 _ _ _ _)
      | (with_reducible exact ih2 _ _ _)
      | (with_reducible exact ih3 _ _ _)
      | (with_reducible exact ih4 _ _ _ _ _ _)
      | (with_reducible exact LeO.refl _)
      | (with_reducible exact LeO.none _)
      | (with_reducible refine LeO.ite ?_ ?_)
      | (with_reducible refine LeO.bind ?_ (fun _ => ?_))
      | exact ih0 _ _ _
      | exact ih1 _ _ _ _
      | exact ih2 _ _ _
      | exact ih3 _ _ _
      | exact ih4 _ _ _ _ _ _
      | exact LeO.none _
      | refine LeO.ite ?_ ?_
      | refine LeO.bind ?_ (fun _ => ?_)
    · intro y0 y1 y2 y3 y4 y5
      unfold parser_Subparams.l0
      repeat' first
      | (with_reducible exact ih0 _ _ _)
      | (with_reducible exact ih1 _ _ _ _)
      | (with_reducible exact ih2 _ _ _)
      | (with_reducible exact ih3 _ _ _)
      | (with_reducible exact ih4 _ _ _ _ _ _)
      | (with_reducible exact LeO.refl _)
      | (with_reducible exact LeO.none _)
      | (with_reducible refine LeO.ite ?_ ?_)
      | (with_reducible refine LeO.bind ?_ (fun _ => ?_))
      | exact ih0 _ _ _
      | exact ih1 _ _ _ _
      | exact ih2 _ _ _
      | exact ih3 _ _ _
      | exact ih4 _ _ _ _ _ _
      | exact LeO.none _
      | refine LeO.ite ?_ ?_
      | refine LeO.bind ?_ (fun _ => ?_)
theorem parser_Subparams.mono : ∀ a0 a1 k, LeO (parser_Subparams.f k a0 a1) (parser_Subparams.f (k + 1) a0 a1) := by
  intro a0 a1 k
  obtain ⟨ih0, ih1, ih2, ih3, ih4⟩ := parser_Subparams.mono_l k
  unfold parser_Subparams.f
  repeat' first
      | (with_reducible exact ih0 _ _ _)
      | (with_reducible exact ih1 _ _ _ _)
      | (with_reducible exact ih2 _ _ _)
      | (with_reducible exact ih3 _ _ _)
      | (with_reducible exact ih4 _ _ _ _ _ _)
      | (with_reducible exact LeO.refl _)
      | (with_reducible exact LeO.none _)
      | (with_reducible refine LeO.ite ?_ ?_)
      | (with_reducible refine LeO.bind ?_ (fun _ => ?_))
      | exact ih0 _ _ _
      | exact ih1 _ _ _ _
      | exact ih2 _ _ _
      | exact ih3 _ _ _
      | exact ih4 _ _ _ _ _ _
      | exact LeO.none _
      | refine LeO.ite ?_ ?_
      | refine LeO.bind ?_ (fun _ => ?_)
set_option maxHeartbeats 8000000 in
set_option maxRecDepth 100000 in
theorem parser_Subparams.calls (k : Nat) (A0 : Option Addr) (c0 : Nat) (l0 : List Int) (a1 : Int) (r : List Int) (w : World) (hr0 : Kd.C (Kd.int .i64) w A0 l0.length l0) (hc0 : l0.length ≤ c0) (h : parser_Subparams.f k l0 a1 = some r) :
    Calls Try.prog 29 #[.slice A0 l0.length c0, .int .i64 a1] w fun e w' => ∃ v0_ : Value, e = .returned (v0_) ∧ Kd.R (Kd.int .i64) 3 w' w.heap.size (fun _ => True) v0_ r ∧ Below w.heap.size w w' := by
  have HR0 := Aside0.mk hr0
  have HC0 := Aside0.mk hc0
  clear hr0 hc0
  have HB := Aside0.mk (Below.refl w.heap.size w)
  have H : (if (l0.length : Int) = 0 then (parser_Subparams.j0 k l0 a1 true) else (if a1 < 0 then (parser_Subparams.j0 k l0 a1 true) else (parser_Subparams.j0 k l0 a1 (decide (a1 ≥ (l0.length : Int)))))) = some r := h
  clear h
  have HC3 := Aside0.mk H
  clear H
  go_enter Try.func29, Try.ntmps29
  go_upto_region 1 with (fail)
  go_cut [22] (fun v22 wc => ∃ (kq : Nat) (x22_2 : Bool), v22 = .bool x22_2 ∧ Aside0 (parser_Subparams.j0 kq l0 a1 x22_2 = some r) ∧ Aside0 (kq ≤ k) ∧ Aside0 (Below w.heap.size w wc))
  case first =>
    have H := HC3.out
    clear HC3
    by_cases c4 : (l0.length : Int) = 0
    · rw [if_pos c4] at H
      have c4b0 : ((l0.length : Int) == 0) = true := beq_iff_eq.mpr c4
      have c4b1 : ((l0.length : Int) != 0) = false := bne_eq_false_iff_eq.mpr c4
      clear c4
      (first | rw [c4b0] | (simp only [i64_w, i32_w]; rw [c4b0]) | skip)
      have H' := Aside0.mk H
      clear H
      go_wp2
      go_meet
      case rel => exact ⟨_, (true), (by first | rfl | (simp; done) | (simp [*]; done)), H', ⟨by first | omega | exact Nat.le_refl _⟩, ⟨by repeat (first | (with_reducible first | exact HB.out | apply below_alloc | apply Go.Proofs.Ytnjbobboookfmaa.Ext.below_bytes | apply pw_below_drewN | apply below_drew1) | exact HB.out)⟩⟩
    · rw [if_neg c4] at H
      have c4b0 : ((l0.length : Int) == 0) = false := beq_eq_false_iff_ne.mpr c4
      have c4b1 : ((l0.length : Int) != 0) = true := bne_iff_ne.mpr c4
      have c4b2 : ¬ (l0 = []) := fun h_ => c4 (by rw [h_]; rfl)
      (first | rw [c4b0] | (simp only [i64_w, i32_w]; rw [c4b0]) | skip)
      by_cases c5 : a1 < 0
      · rw [if_pos c5] at H
        have c5b0 : decide (a1 < 0) = true := decide_eq_true c5
        clear c5
        have H' := Aside0.mk H
        clear H
        go_wp2
        go_meet
        case rel => exact ⟨_, (true), (by first | rfl | (simp; done) | (simp [*]; done)), H', ⟨by first | omega | exact Nat.le_refl _⟩, ⟨by repeat (first | (with_reducible first | exact HB.out | apply below_alloc | apply Go.Proofs.Ytnjbobboookfmaa.Ext.below_bytes | apply pw_below_drewN | apply below_drew1) | exact HB.out)⟩⟩
      · rw [if_neg c5] at H
        have c5b0 : decide (a1 < 0) = false := decide_eq_false c5
        clear c5
        have H' := Aside0.mk H
        clear H
        go_wp2
        go_meet
        case rel => exact ⟨_, (decide (a1 ≥ (l0.length : Int))), (by first | rfl | (simp; done) | (simp [*]; done)), H', ⟨by first | omega | exact Nat.le_refl _⟩, ⟨by repeat (first | (with_reducible first | exact HB.out | apply below_alloc | apply Go.Proofs.Ytnjbobboookfmaa.Ext.below_bytes | apply pw_below_drewN | apply below_drew1) | exact HB.out)⟩⟩
  case rest =>
    clear HC3
    try clear c2
    try clear p2
    try clear c4
    try clear c4b0
    try clear c4b1
    try clear c4b2
    try clear c5
    try clear c5b0
    obtain ⟨kq, x22_2, rfl, HA, HJ2, HB⟩ := hcut
    cases kq with
    | zero => exact absurd HA.out (by simp [parser_Subparams.j0])
    | succ kj2 =>
      have H := HA.out
      clear HA
      simp only [parser_Subparams.j0] at H
      by_cases c6 : x22_2 = true
      · subst c6
        have H1 : (some ([] : List Int)) = some r := by rw [if_pos rfl] at H; exact H
        clear H
        have H := H1
        clear H1
        obtain rfl := Option.some.inj H
        go_wp2
        go_ret
        exact ⟨_, by first | rfl | (simp [errW_none, errW_some] <;> rfl) | (simp [*, errW_none, errW_some] <;> rfl), by first | exact Kd.R_nil _ _ _ _ _ | exact Kd.N_nil _ _ _ _ _ | exact Kd.V_nil _ _ _ _ _ | exact Kd.Q_nil _ _ _ _ _ | exact Kd.S_nil _ _ _ _ _, by repeat (first | (with_reducible first | exact HB.out | apply below_alloc | apply Go.Proofs.Ytnjbobboookfmaa.Ext.below_bytes | apply pw_below_drewN | apply below_drew1) | exact HB.out)⟩
      · replace c6 := Bool.eq_false_iff.mpr c6
        subst c6
        have H1 : (parser_Subparams.l0 kj2 l0 a1 0 0 (l0.length : Int) 0) = some r := by rw [if_neg (show ¬ (false = true) by decide)] at H; exact H
        clear H
        have H := H1
        clear H1
        have HC7 := Aside0.mk H
        clear H
        go_upto_block 0 with (fail)
        go_cut [5, 6] (fun v5 v6 wc => ∃ (kq : Nat) (x5_6 : Int) (x6_6 : Int), v5 = .int .i64 x5_6 ∧ v6 = .int .i64 x6_6 ∧ Aside0 (parser_Subparams.j2 kq l0 a1 x5_6 x6_6 = some r) ∧ Aside0 (kq ≤ kj2) ∧ Aside0 (Below w.heap.size w wc))
        case first =>
          have H := HC7.out
          clear HC7
          have H' := Aside0.mk H
          clear H
          go_wp2
          go_loopg [5, 6, 25] kj2 (fun kq v5 v6 v25 w' => ∃ (x5_2 : Int) (x6_2 : Int) (x25_2 : Int), v5 = .int .i64 x5_2 ∧ v6 = .int .i64 x6_2 ∧ v25 = .int .i64 x25_2 ∧ Aside0 (parser_Subparams.l0 kq l0 a1 x5_2 x6_2 (l0.length : Int) x25_2 = some r) ∧ Aside0 (kq ≤ kj2) ∧ Aside0 (Below w.heap.size w w'))
          case atStart => exact ⟨(0), (0), (0), (by first | rfl | (simp; done) | (simp [*]; done)), (by first | rfl | (simp; done) | (simp [*]; done)), (by first | rfl | (simp; done) | (simp [*]; done)), H', ⟨Nat.le_refl _⟩, ⟨by repeat (first | (with_reducible first | exact HB.out | apply below_alloc | apply Go.Proofs.Ytnjbobboookfmaa.Ext.below_bytes | apply pw_below_drewN | apply below_drew1) | exact HB.out)⟩⟩
          case round =>
            clear H'
            try clear c2
            try clear p2
            try clear c4
            try clear c4b0
            try clear c4b1
            try clear c4b2
            try clear c5
            try clear c5b0
            try clear c6
            try clear p2
            obtain ⟨x5_2, x6_2, x25_2, rfl, rfl, rfl, HA, HK2, HB⟩ := hrel
            cases gk with
            | zero => exact absurd HA.out (by simp [parser_Subparams.l0])
            | succ k2 =>
              have H := HA.out
              clear HA
              simp only [parser_Subparams.l0] at H
              by_cases c8 : x25_2 < (l0.length : Int)
              · rw [if_pos c8] at H
                have c8b0 : decide (x25_2 < (l0.length : Int)) = true := decide_eq_true c8
                clear c8
                (first | rw [c8b0] | (simp only [i64_w, i32_w]; rw [c8b0]) | skip)
                by_cases c9 : x5_2 = a1
                · rw [if_pos c9] at H
                  have c9b0 : (x5_2 == a1) = true := beq_iff_eq.mpr c9
                  have c9b1 : (x5_2 != a1) = false := bne_eq_false_iff_eq.mpr c9
                  clear c9
                  have H' := Aside0.mk H
                  clear H
                  go_wp2
                  go_meet
                  case rel => exact ⟨_, (x5_2), (x25_2), (by first | rfl | (simp; done) | (simp [*]; done)), (by first | rfl | (simp; done) | (simp [*]; done)), H', ⟨by have := HJ2.out; have := HK2.out; first | omega | exact Nat.le_refl _⟩, ⟨by repeat (first | (with_reducible first | exact HB.out | apply below_alloc | apply Go.Proofs.Ytnjbobboookfmaa.Ext.below_bytes | apply pw_below_drewN | apply below_drew1) | exact HB.out)⟩⟩
                · rw [if_neg c9] at H
                  have c9b0 : (x5_2 == a1) = false := beq_eq_false_iff_ne.mpr c9
                  have c9b1 : (x5_2 != a1) = true := bne_iff_ne.mpr c9
                  replace H := Option.bind_eq_some_iff.mp H
                  obtain ⟨t112, A100, H⟩ := H
                  replace H : (if t112 = true then (parser_Subparams.l0 k2 l0 a1 x5_2 x25_2 (l0.length : Int) (wrap64 (x25_2 + 1))) else (parser_Subparams.l0 k2 l0 a1 (wrap64 (x5_2 + 1)) x25_2 (l0.length : Int) (wrap64 (x25_2 + 1)))) = some r := H
                  have A10 := Aside0.mk A100
                  clear A100
                  by_cases c11 : t112 = true
                  · subst c11
                    have H1 : (parser_Subparams.l0 k2 l0 a1 x5_2 x25_2 (l0.length : Int) (wrap64 (x25_2 + 1))) = some r := by rw [if_pos rfl] at H; exact H
                    clear H
                    have H := H1
                    clear H1
                    have H' := Aside0.mk H
                    clear H
                    go_wp2_with (first | ((with_reducible refine gate_callee (f := 28) rfl ?_); refine goesL_ (some 33) rfl rfl Try.func28 (by kernel_rfl) rfl #[.slice A0 l0.length c0, .int .i64 x25_2] rfl (by (try simp only [List.map_toArray, List.map_cons, List.map_nil]); first | done | rfl | (simp only [List.length_drop, List.length_take]; rfl) | (simp [Act.eval, *]; done) | (simp [Act.eval, *]; unfold wrap64; omega)) ?_; (with_reducible refine (parser_HasMore.calls _ _ l0 x25_2 true _ ?side1 ?side2 A10.out).mono ?_); (case side1 => repeat (first | exact (Kd.C_below HR0.out HB.out) | (with_reducible refine Kd.C_alloc ?_ _) | (with_reducible refine Kd.C_drewN ?_ _) | (with_reducible refine Kd.C_drew ?_))); (case side2 => exact HC0.out); rintro e w' ⟨rfl, ⟨nd, rfl⟩⟩; refine ⟨_, rfl, ?_⟩))
                    go_roundg k2
                    case measure => have := HJ2.out; have := HK2.out; omega
                    case rel => exact ⟨(x5_2), (x25_2), (wrap64 (x25_2 + 1)), (by first | rfl | (simp; done) | (simp [*]; done)), (by first | rfl | (simp; done) | (simp [*]; done)), (by first | rfl | (simp; done) | (simp [*]; done)), H', ⟨by have := HJ2.out; have := HK2.out; omega⟩, ⟨by repeat (first | (with_reducible first | exact HB.out | apply below_alloc | apply Go.Proofs.Ytnjbobboookfmaa.Ext.below_bytes | apply pw_below_drewN | apply below_drew1) | exact HB.out)⟩⟩
                  · replace c11 := Bool.eq_false_iff.mpr c11
                    subst c11
                    have H1 : (parser_Subparams.l0 k2 l0 a1 (wrap64 (x5_2 + 1)) x25_2 (l0.length : Int) (wrap64 (x25_2 + 1))) = some r := by rw [if_neg (show ¬ (false = true) by decide)] at H; exact H
                    clear H
                    have H := H1
                    clear H1
                    have H' := Aside0.mk H
                    clear H
                    go_wp2_with (first | ((with_reducible refine gate_callee (f := 28) rfl ?_); refine goesL_ (some 33) rfl rfl Try.func28 (by kernel_rfl) rfl #[.slice A0 l0.length c0, .int .i64 x25_2] rfl (by (try simp only [List.map_toArray, List.map_cons, List.map_nil]); first | done | rfl | (simp only [List.length_drop, List.length_take]; rfl) | (simp [Act.eval, *]; done) | (simp [Act.eval, *]; unfold wrap64; omega)) ?_; (with_reducible refine (parser_HasMore.calls _ _ l0 x25_2 false _ ?side1 ?side2 A10.out).mono ?_); (case side1 => repeat (first | exact (Kd.C_below HR0.out HB.out) | (with_reducible refine Kd.C_alloc ?_ _) | (with_reducible refine Kd.C_drewN ?_ _) | (with_reducible refine Kd.C_drew ?_))); (case side2 => exact HC0.out); rintro e w' ⟨rfl, ⟨nd, rfl⟩⟩; refine ⟨_, rfl, ?_⟩))
                    go_roundg k2
                    case measure => have := HJ2.out; have := HK2.out; omega
                    case rel => exact ⟨(wrap64 (x5_2 + 1)), (x25_2), (wrap64 (x25_2 + 1)), (by first | rfl | (simp; done) | (simp [*]; done)), (by first | rfl | (simp; done) | (simp [*]; done)), (by first | rfl | (simp; done) | (simp [*]; done)), H', ⟨by have := HJ2.out; have := HK2.out; omega⟩, ⟨by repeat (first | (with_reducible first | exact HB.out | apply below_alloc | apply Go.Proofs.Ytnjbobboookfmaa.Ext.below_bytes | apply pw_below_drewN | apply below_drew1) | exact HB.out)⟩⟩
              · rw [if_neg c8] at H
                have c8b0 : decide (x25_2 < (l0.length : Int)) = false := decide_eq_false c8
                clear c8
                (first | rw [c8b0] | (simp only [i64_w, i32_w]; rw [c8b0]) | skip)
                have H' := Aside0.mk H
                clear H
                go_wp2
                go_meet
                case rel => exact ⟨_, (x5_2), (x6_2), (by first | rfl | (simp; done) | (simp [*]; done)), (by first | rfl | (simp; done) | (simp [*]; done)), H', ⟨by have := HJ2.out; have := HK2.out; first | omega | exact Nat.le_refl _⟩, ⟨by repeat (first | (with_reducible first | exact HB.out | apply below_alloc | apply Go.Proofs.Ytnjbobboookfmaa.Ext.below_bytes | apply pw_below_drewN | apply below_drew1) | exact HB.out)⟩⟩
        case rest =>
          clear HC7
          try clear c1
          try clear c2
          try clear p2
          try clear c4
          try clear c4b0
          try clear c4b1
          try clear c4b2
          try clear c5
          try clear c5b0
          try clear c6
          try clear p6
          try clear c8
          try clear c8b0
          try clear c9
          try clear c9b0
          try clear c9b1
          try clear c11
          try clear p2
          obtain ⟨kq, x5_6, x6_6, rfl, rfl, HA, HJ6, HB⟩ := hcut
          cases kq with
          | zero => exact absurd HA.out (by simp [parser_Subparams.j2])
          | succ kj6 =>
            have H := HA.out
            clear HA
            simp only [parser_Subparams.j2] at H
            have HC12 := Aside0.mk H
            clear H
            go_upto_region 12 with (fail)
            go_cut [46] (fun v46 wc => ∃ (kq : Nat) (x46_11 : Bool), v46 = .bool x46_11 ∧ Aside0 (parser_Subparams.j3 kq l0 x6_6 x46_11 = some r) ∧ Aside0 (kq ≤ kj6) ∧ Aside0 (Below w.heap.size w wc))
            case first =>
              have H := HC12.out
              clear HC12
              by_cases c13 : x5_6 > a1
              · rw [if_pos c13] at H
                have c13b0 : decide (a1 < x5_6) = true := decide_eq_true c13
                clear c13
                (first | rw [c13b0] | (simp only [i64_w, i32_w]; rw [c13b0]) | skip)
                have H' := Aside0.mk H
                clear H
                go_wp2
                go_meet
                case rel => exact ⟨_, (true), (by first | rfl | (simp; done) | (simp [*]; done)), H', ⟨by have := HJ2.out; have := HJ6.out; first | omega | exact Nat.le_refl _⟩, ⟨by repeat (first | (with_reducible first | exact HB.out | apply below_alloc | apply Go.Proofs.Ytnjbobboookfmaa.Ext.below_bytes | apply pw_below_drewN | apply below_drew1) | exact HB.out)⟩⟩
              · rw [if_neg c13] at H
                have c13b0 : decide (a1 < x5_6) = false := decide_eq_false c13
                clear c13
                (first | rw [c13b0] | (simp only [i64_w, i32_w]; rw [c13b0]) | skip)
                have H' := Aside0.mk H
                clear H
                go_wp2
                go_meet
                case rel => exact ⟨_, (decide (x6_6 ≥ (l0.length : Int))), (by first | rfl | (simp; done) | (simp [*]; done)), H', ⟨by have := HJ2.out; have := HJ6.out; first | omega | exact Nat.le_refl _⟩, ⟨by repeat (first | (with_reducible first | exact HB.out | apply below_alloc | apply Go.Proofs.Ytnjbobboookfmaa.Ext.below_bytes | apply pw_below_drewN | apply below_drew1) | exact HB.out)⟩⟩
            case rest =>
              clear HC12
              try clear c1
              try clear c2
              try clear p2
              try clear c4
              try clear c4b0
              try clear c4b1
              try clear c4b2
              try clear c5
              try clear c5b0
              try clear c6
              try clear p6
              try clear c8
              try clear c8b0
              try clear c9
              try clear c9b0
              try clear c9b1
              try clear c11
              try clear c13
              try clear c13b0
              try clear p2
              try clear p6
              obtain ⟨kq, x46_11, rfl, HA, HJ11, HB⟩ := hcut
              cases kq with
              | zero => exact absurd HA.out (by simp [parser_Subparams.j3])
              | succ kj11 =>
                have H := HA.out
                clear HA
                simp only [parser_Subparams.j3] at H
                by_cases c14 : x46_11 = true
                · subst c14
                  have H1 : (some ([] : List Int)) = some r := by rw [if_pos rfl] at H; exact H
                  clear H
                  have H := H1
                  clear H1
                  obtain rfl := Option.some.inj H
                  go_wp2
                  go_ret
                  exact ⟨_, by first | rfl | (simp [errW_none, errW_some] <;> rfl) | (simp [*, errW_none, errW_some] <;> rfl), by first | exact Kd.R_nil _ _ _ _ _ | exact Kd.N_nil _ _ _ _ _ | exact Kd.V_nil _ _ _ _ _ | exact Kd.Q_nil _ _ _ _ _ | exact Kd.S_nil _ _ _ _ _, by repeat (first | (with_reducible first | exact HB.out | apply below_alloc | apply Go.Proofs.Ytnjbobboookfmaa.Ext.below_bytes | apply pw_below_drewN | apply below_drew1) | exact HB.out)⟩
                · replace c14 := Bool.eq_false_iff.mpr c14
                  subst c14
                  have H1 : (parser_Subparams.l1 kj11 l0 x6_6 ([] : List Int)) = some r := by rw [if_neg (show ¬ (false = true) by decide)] at H; exact H
                  clear H
                  have H := H1
                  clear H1
                  have H' := Aside0.mk H
                  clear H
                  go_wp2
                  go_loopg [6, 7] kj11 (fun kq v6 v7 w' => ∃ (x6_4 : Int) (x7_4 : List Int), v6 = .int .i64 x6_4 ∧ Aside0 (parser_Subparams.l1 kq l0 x6_4 x7_4 = some r) ∧ Aside0 (kq ≤ kj11) ∧ Aside0 (Kd.R (Kd.int .i64) 3 w' w.heap.size (fun _ => True) v7 x7_4) ∧ Aside0 (Below w.heap.size w w'))
                  case atStart => exact ⟨(x6_6), (([] : List Int)), (by first | rfl | (simp; done) | (simp [*]; done)), H', ⟨Nat.le_refl _⟩, ⟨by first | exact Kd.R_nil _ _ _ _ _ | exact Kd.N_nil _ _ _ _ _ | exact Kd.V_nil _ _ _ _ _ | exact Kd.Q_nil _ _ _ _ _ | exact Kd.S_nil _ _ _ _ _⟩, ⟨by repeat (first | (with_reducible first | exact HB.out | apply below_alloc | apply Go.Proofs.Ytnjbobboookfmaa.Ext.below_bytes | apply pw_below_drewN | apply below_drew1) | exact HB.out)⟩⟩
                  case round =>
                    clear H'
                    try clear c1
                    try clear c2
                    try clear p2
                    try clear c4
                    try clear c4b0
                    try clear c4b1
                    try clear c4b2
                    try clear c5
                    try clear c5b0
                    try clear c6
                    try clear p6
                    try clear c8
                    try clear c8b0
                    try clear c9
                    try clear c9b0
                    try clear c9b1
                    try clear c11
                    try clear c13
                    try clear c13b0
                    try clear c14
                    try clear p2
                    try clear p6
                    obtain ⟨x6_4, x7_4, rfl, HA, HK4, HO_7, HB⟩ := hrel
                    cases gk with
                    | zero => exact absurd HA.out (by simp [parser_Subparams.l1])
                    | succ k4 =>
                      have H := HA.out
                      clear HA
                      simp only [parser_Subparams.l1] at H
                      by_cases c15 : x6_4 < (l0.length : Int)
                      · rw [if_pos c15] at H
                        have c15b0 : decide (x6_4 < (l0.length : Int)) = true := decide_eq_true c15
                        clear c15
                        replace H := Option.bind_eq_some_iff.mp H
                        obtain ⟨t113, A160, H⟩ := H
                        replace H : (if t113 = true then ((parser_Param.f l0 x6_4).bind fun t114 => (if t114 = (-1) then (if x7_4.length < 17592186044416 then (parser_Subparams.l1 k4 l0 (wrap64 (x6_4 + 1)) (x7_4 ++ [0])) else (none)) else (if x7_4.length < 17592186044416 then (parser_Subparams.l1 k4 l0 (wrap64 (x6_4 + 1)) (x7_4 ++ [t114])) else (none)))) else ((parser_Param.f l0 x6_4).bind fun t121 => (if t121 = (-1) then (if x7_4.length < 17592186044416 then (some (x7_4 ++ [0])) else (none)) else (if x7_4.length < 17592186044416 then (some (x7_4 ++ [t121])) else (none))))) = some r := H
                        have A16 := Aside0.mk A160
                        clear A160
                        by_cases c17 : t113 = true
                        · subst c17
                          have H1 : ((parser_Param.f l0 x6_4).bind fun t114 => (if t114 = (-1) then (if x7_4.length < 17592186044416 then (parser_Subparams.l1 k4 l0 (wrap64 (x6_4 + 1)) (x7_4 ++ [0])) else (none)) else (if x7_4.length < 17592186044416 then (parser_Subparams.l1 k4 l0 (wrap64 (x6_4 + 1)) (x7_4 ++ [t114])) else (none)))) = some r := by rw [if_pos rfl] at H; exact H
                          clear H
                          have H := H1
                          clear H1
                          replace H := Option.bind_eq_some_iff.mp H
                          obtain ⟨t114, A180, H⟩ := H
                          replace H : (if t114 = (-1) then (if x7_4.length < 17592186044416 then (parser_Subparams.l1 k4 l0 (wrap64 (x6_4 + 1)) (x7_4 ++ [0])) else (none)) else (if x7_4.length < 17592186044416 then (parser_Subparams.l1 k4 l0 (wrap64 (x6_4 + 1)) (x7_4 ++ [t114])) else (none))) = some r := H
                          have A18 := Aside0.mk A180
                          clear A180
                          by_cases c19 : t114 = (-1)
                          · rw [if_pos c19] at H
                            have c19b0 : (t114 == (-1)) = true := beq_iff_eq.mpr c19
                            have c19b1 : (t114 != (-1)) = false := bne_eq_false_iff_eq.mpr c19
                            clear c19
                            by_cases c20 : x7_4.length < 17592186044416
                            · rw [if_pos c20] at H
                              have LMc20 := Aside0.mk c20
                              clear c20
                              obtain ⟨y115, hy115⟩ : ∃ y_ : List Int, y_ = (x7_4 ++ [0]) := ⟨_, rfl⟩
                              replace H : (parser_Subparams.l1 k4 l0 (wrap64 (x6_4 + 1)) y115) = some r := by first | (rw [hy115]; with_reducible exact H) | (have H2_ := (Option.bind_some _ _).symm.trans H; rw [hy115]; with_reducible exact H2_) | (have H2_ := (Option.bind_some _ _).symm.trans H; with_reducible exact H2_) | with_reducible exact H | (rw [hy115]; exact H) | exact H
                              have Ny115 := Aside0.mk hy115
                              clear hy115
                              have H' := Aside0.mk H
                              clear H
                              go_wp2_with (first | ((with_reducible refine gate_callee (f := 28) rfl ?_); refine goesL_ (some 55) rfl rfl Try.func28 (by kernel_rfl) rfl #[.slice A0 l0.length c0, .int .i64 x6_4] rfl (by (try simp only [List.map_toArray, List.map_cons, List.map_nil]); first | done | rfl | (simp only [List.length_drop, List.length_take]; rfl) | (simp [Act.eval, *]; done) | (simp [Act.eval, *]; unfold wrap64; omega)) ?_; (with_reducible refine (parser_HasMore.calls _ _ l0 x6_4 true _ ?side1 ?side2 A16.out).mono ?_); (case side1 => repeat (first | exact (Kd.C_below HR0.out HB.out) | (with_reducible refine Kd.C_alloc ?_ _) | (with_reducible refine Kd.C_drewN ?_ _) | (with_reducible refine Kd.C_drew ?_))); (case side2 => exact HC0.out); rintro e w' ⟨rfl, ⟨nd, rfl⟩⟩; refine ⟨_, rfl, ?_⟩) | ((with_reducible refine gate_callee (f := 27) rfl ?_); refine goesL_ (some 59) rfl rfl Try.func27 (by kernel_rfl) rfl #[.slice A0 l0.length c0, .int .i64 x6_4] rfl (by (try simp only [List.map_toArray, List.map_cons, List.map_nil]); first | done | rfl | (simp only [List.length_drop, List.length_take]; rfl) | (simp [Act.eval, *]; done) | (simp [Act.eval, *]; unfold wrap64; omega)) ?_; (with_reducible refine (parser_Param.calls _ _ l0 x6_4 t114 _ ?side1 ?side2 A18.out).mono ?_); (case side1 => repeat (first | exact (Kd.C_below HR0.out (by repeat (first | (with_reducible first | exact HB.out | apply below_alloc | apply Go.Proofs.Ytnjbobboookfmaa.Ext.below_bytes | apply pw_below_drewN | apply below_drew1) | exact HB.out))) | (with_reducible refine Kd.C_alloc ?_ _) | (with_reducible refine Kd.C_drewN ?_ _) | (with_reducible refine Kd.C_drew ?_))); (case side2 => exact HC0.out); rintro e w' ⟨rfl, ⟨nd, rfl⟩⟩; refine ⟨_, rfl, ?_⟩) | ((with_reducible refine gate_builtin (b := .append) (xs := #[.tmp 62, .tmp 64]) rfl ?_); (try (refine gate_guard (by rfl) ?_; dsimp only)); at_builtin; refine Kd.R_append (Kd.int .i64) (w0 := w) w.heap.size rfl (.tmp 62) (.tmp 64) 64 3 (.int .i64 0) 8 rfl Try.underlying64 info3 rfl (by decide) (by omega) u7 x7_4 0 [.int .i64 0] (fun _ => True) (fun _ => False) rfl rfl ?aP (fun _ hk => hk.elim) ?aF ?aO ?aB ?aS ?aL ?_; (case aP => exact rfl); (case aB => exact (by repeat (first | (with_reducible first | exact HB.out | apply below_alloc | apply Go.Proofs.Ytnjbobboookfmaa.Ext.below_bytes | apply pw_below_drewN | apply below_drew1) | exact HB.out))); (case aF => exact (fun _ _ => trivial)); (case aO => exact (by (with_reducible repeat (first | apply Kd.R_alloc | apply Go.Proofs.Ytnjbobboookfmaa.Ext.R_bytes | apply Kd.R_drewN | apply Kd.R_drew)); exact HO_7.out)); (case aS => exact (below_size (by repeat (first | (with_reducible first | exact HB.out | apply below_alloc | apply Go.Proofs.Ytnjbobboookfmaa.Ext.below_bytes | apply pw_below_drewN | apply below_drew1) | exact HB.out)))); (case aL => have := LMc20.out; omega); intro v116 w21 ho hb hg hat; rw [← Ny115.out] at ho; have n0_ := Aside0.mk (hb); have n1_ := Aside0.mk (ho); clear HB; clear HO_7; have HB := n0_; have HO117 := n1_; clear n0_ n1_; clear ho hb hg hat))
                              go_roundg k4
                              case measure => have := HJ2.out; have := HJ6.out; have := HJ11.out; have := HK4.out; omega
                              case rel => exact ⟨(wrap64 (x6_4 + 1)), (y115), (by first | rfl | (simp; done) | (simp [*]; done)), H', ⟨by have := HJ2.out; have := HJ6.out; have := HJ11.out; have := HK4.out; omega⟩, ⟨by (with_reducible repeat (first | apply Kd.R_alloc | apply Go.Proofs.Ytnjbobboookfmaa.Ext.R_bytes | apply Kd.R_drewN | apply Kd.R_drew)); exact HO117.out⟩, ⟨by repeat (first | (with_reducible first | exact HB.out | apply below_alloc | apply Go.Proofs.Ytnjbobboookfmaa.Ext.below_bytes | apply pw_below_drewN | apply below_drew1) | exact HB.out)⟩⟩
                            · rw [if_neg c20] at H
                              exact absurd H (by simp)
                          · rw [if_neg c19] at H
                            have c19b0 : (t114 == (-1)) = false := beq_eq_false_iff_ne.mpr c19
                            have c19b1 : (t114 != (-1)) = true := bne_iff_ne.mpr c19
                            by_cases c22 : x7_4.length < 17592186044416
                            · rw [if_pos c22] at H
                              have LMc22 := Aside0.mk c22
                              clear c22
                              obtain ⟨y118, hy118⟩ : ∃ y_ : List Int, y_ = (x7_4 ++ [t114]) := ⟨_, rfl⟩
                              replace H : (parser_Subparams.l1 k4 l0 (wrap64 (x6_4 + 1)) y118) = some r := by first | (rw [hy118]; with_reducible exact H) | (have H2_ := (Option.bind_some _ _).symm.trans H; rw [hy118]; with_reducible exact H2_) | (have H2_ := (Option.bind_some _ _).symm.trans H; with_reducible exact H2_) | with_reducible exact H | (rw [hy118]; exact H) | exact H
                              have Ny118 := Aside0.mk hy118
                              clear hy118
                              have H' := Aside0.mk H
                              clear H
                              go_wp2_with (first | ((with_reducible refine gate_callee (f := 28) rfl ?_); refine goesL_ (some 55) rfl rfl Try.func28 (by kernel_rfl) rfl #[.slice A0 l0.length c0, .int .i64 x6_4] rfl (by (try simp only [List.map_toArray, List.map_cons, List.map_nil]); first | done | rfl | (simp only [List.length_drop, List.length_take]; rfl) | (simp [Act.eval, *]; done) | (simp [Act.eval, *]; unfold wrap64; omega)) ?_; (with_reducible refine (parser_HasMore.calls _ _ l0 x6_4 true _ ?side1 ?side2 A16.out).mono ?_); (case side1 => repeat (first | exact (Kd.C_below HR0.out HB.out) | (with_reducible refine Kd.C_alloc ?_ _) | (with_reducible refine Kd.C_drewN ?_ _) | (with_reducible refine Kd.C_drew ?_))); (case side2 => exact HC0.out); rintro e w' ⟨rfl, ⟨nd, rfl⟩⟩; refine ⟨_, rfl, ?_⟩) | ((with_reducible refine gate_callee (f := 27) rfl ?_); refine goesL_ (some 59) rfl rfl Try.func27 (by kernel_rfl) rfl #[.slice A0 l0.length c0, .int .i64 x6_4] rfl (by (try simp only [List.map_toArray, List.map_cons, List.map_nil]); first | done | rfl | (simp only [List.length_drop, List.length_take]; rfl) | (simp [Act.eval, *]; done) | (simp [Act.eval, *]; unfold wrap64; omega)) ?_; (with_reducible refine (parser_Param.calls _ _ l0 x6_4 t114 _ ?side1 ?side2 A18.out).mono ?_); (case side1 => repeat (first | exact (Kd.C_below HR0.out (by repeat (first | (with_reducible first | exact HB.out | apply below_alloc | apply Go.Proofs.Ytnjbobboookfmaa.Ext.below_bytes | apply pw_below_drewN | apply below_drew1) | exact HB.out))) | (with_reducible refine Kd.C_alloc ?_ _) | (with_reducible refine Kd.C_drewN ?_ _) | (with_reducible refine Kd.C_drew ?_))); (case side2 => exact HC0.out); rintro e w' ⟨rfl, ⟨nd, rfl⟩⟩; refine ⟨_, rfl, ?_⟩) | ((with_reducible refine gate_builtin (b := .append) (xs := #[.tmp 62, .tmp 64]) rfl ?_); (try (refine gate_guard (by rfl) ?_; dsimp only)); at_builtin; refine Kd.R_append (Kd.int .i64) (w0 := w) w.heap.size rfl (.tmp 62) (.tmp 64) 64 3 (.int .i64 0) 8 rfl Try.underlying64 info3 rfl (by decide) (by omega) u7 x7_4 t114 [.int .i64 t114] (fun _ => True) (fun _ => False) rfl rfl ?aP (fun _ hk => hk.elim) ?aF ?aO ?aB ?aS ?aL ?_; (case aP => exact rfl); (case aB => exact (by repeat (first | (with_reducible first | exact HB.out | apply below_alloc | apply Go.Proofs.Ytnjbobboookfmaa.Ext.below_bytes | apply pw_below_drewN | apply below_drew1) | exact HB.out))); (case aF => exact (fun _ _ => trivial)); (case aO => exact (by (with_reducible repeat (first | apply Kd.R_alloc | apply Go.Proofs.Ytnjbobboookfmaa.Ext.R_bytes | apply Kd.R_drewN | apply Kd.R_drew)); exact HO_7.out)); (case aS => exact (below_size (by repeat (first | (with_reducible first | exact HB.out | apply below_alloc | apply Go.Proofs.Ytnjbobboookfmaa.Ext.below_bytes | apply pw_below_drewN | apply below_drew1) | exact HB.out)))); (case aL => have := LMc22.out; omega); intro v119 w23 ho hb hg hat; rw [← Ny118.out] at ho; have n0_ := Aside0.mk (hb); have n1_ := Aside0.mk (ho); clear HB; clear HO_7; have HB := n0_; have HO120 := n1_; clear n0_ n1_; clear ho hb hg hat))
                              go_roundg k4
                              case measure => have := HJ2.out; have := HJ6.out; have := HJ11.out; have := HK4.out; omega
                              case rel => exact ⟨(wrap64 (x6_4 + 1)), (y118), (by first | rfl | (simp; done) | (simp [*]; done)), H', ⟨by have := HJ2.out; have := HJ6.out; have := HJ11.out; have := HK4.out; omega⟩, ⟨by (with_reducible repeat (first | apply Kd.R_alloc | apply Go.Proofs.Ytnjbobboookfmaa.Ext.R_bytes | apply Kd.R_drewN | apply Kd.R_drew)); exact HO120.out⟩, ⟨by repeat (first | (with_reducible first | exact HB.out | apply below_alloc | apply Go.Proofs.Ytnjbobboookfmaa.Ext.below_bytes | apply pw_below_drewN | apply below_drew1) | exact HB.out)⟩⟩
                            · rw [if_neg c22] at H
                              exact absurd H (by simp)
                        · replace c17 := Bool.eq_false_iff.mpr c17
                          subst c17
                          have H1 : ((parser_Param.f l0 x6_4).bind fun t121 => (if t121 = (-1) then (if x7_4.length < 17592186044416 then (some (x7_4 ++ [0])) else (none)) else (if x7_4.length < 17592186044416 then (some (x7_4 ++ [t121])) else (none)))) = some r := by rw [if_neg (show ¬ (false = true) by decide)] at H; exact H
                          clear H
                          have H := H1
                          clear H1
                          replace H := Option.bind_eq_some_iff.mp H
                          obtain ⟨t121, A240, H⟩ := H
                          replace H : (if t121 = (-1) then (if x7_4.length < 17592186044416 then (some (x7_4 ++ [0])) else (none)) else (if x7_4.length < 17592186044416 then (some (x7_4 ++ [t121])) else (none))) = some r := H
                          have A24 := Aside0.mk A240
                          clear A240
                          by_cases c25 : t121 = (-1)
                          · rw [if_pos c25] at H
                            have c25b0 : (t121 == (-1)) = true := beq_iff_eq.mpr c25
                            have c25b1 : (t121 != (-1)) = false := bne_eq_false_iff_eq.mpr c25
                            clear c25
                            by_cases c26 : x7_4.length < 17592186044416
                            · rw [if_pos c26] at H
                              have LMc26 := Aside0.mk c26
                              clear c26
                              obtain ⟨y122, hy122⟩ : ∃ y_ : List Int, y_ = (x7_4 ++ [0]) := ⟨_, rfl⟩
                              replace H : (some y122) = some r := by first | (rw [hy122]; with_reducible exact H) | (have H2_ := (Option.bind_some _ _).symm.trans H; rw [hy122]; with_reducible exact H2_) | (have H2_ := (Option.bind_some _ _).symm.trans H; with_reducible exact H2_) | with_reducible exact H | (rw [hy122]; exact H) | exact H
                              have Ny122 := Aside0.mk hy122
                              clear hy122
                              obtain rfl := Option.some.inj H
                              go_wp2_with (first | ((with_reducible refine gate_callee (f := 28) rfl ?_); refine goesL_ (some 55) rfl rfl Try.func28 (by kernel_rfl) rfl #[.slice A0 l0.length c0, .int .i64 x6_4] rfl (by (try simp only [List.map_toArray, List.map_cons, List.map_nil]); first | done | rfl | (simp only [List.length_drop, List.length_take]; rfl) | (simp [Act.eval, *]; done) | (simp [Act.eval, *]; unfold wrap64; omega)) ?_; (with_reducible refine (parser_HasMore.calls _ _ l0 x6_4 false _ ?side1 ?side2 A16.out).mono ?_); (case side1 => repeat (first | exact (Kd.C_below HR0.out HB.out) | (with_reducible refine Kd.C_alloc ?_ _) | (with_reducible refine Kd.C_drewN ?_ _) | (with_reducible refine Kd.C_drew ?_))); (case side2 => exact HC0.out); rintro e w' ⟨rfl, ⟨nd, rfl⟩⟩; refine ⟨_, rfl, ?_⟩) | ((with_reducible refine gate_callee (f := 27) rfl ?_); refine goesL_ (some 68) rfl rfl Try.func27 (by kernel_rfl) rfl #[.slice A0 l0.length c0, .int .i64 x6_4] rfl (by (try simp only [List.map_toArray, List.map_cons, List.map_nil]); first | done | rfl | (simp only [List.length_drop, List.length_take]; rfl) | (simp [Act.eval, *]; done) | (simp [Act.eval, *]; unfold wrap64; omega)) ?_; (with_reducible refine (parser_Param.calls _ _ l0 x6_4 t121 _ ?side1 ?side2 A24.out).mono ?_); (case side1 => repeat (first | exact (Kd.C_below HR0.out (by repeat (first | (with_reducible first | exact HB.out | apply below_alloc | apply Go.Proofs.Ytnjbobboookfmaa.Ext.below_bytes | apply pw_below_drewN | apply below_drew1) | exact HB.out))) | (with_reducible refine Kd.C_alloc ?_ _) | (with_reducible refine Kd.C_drewN ?_ _) | (with_reducible refine Kd.C_drew ?_))); (case side2 => exact HC0.out); rintro e w' ⟨rfl, ⟨nd, rfl⟩⟩; refine ⟨_, rfl, ?_⟩) | ((with_reducible refine gate_builtin (b := .append) (xs := #[.tmp 71, .tmp 73]) rfl ?_); (try (refine gate_guard (by rfl) ?_; dsimp only)); at_builtin; refine Kd.R_append (Kd.int .i64) (w0 := w) w.heap.size rfl (.tmp 71) (.tmp 73) 64 3 (.int .i64 0) 8 rfl Try.underlying64 info3 rfl (by decide) (by omega) u7 x7_4 0 [.int .i64 0] (fun _ => True) (fun _ => False) rfl rfl ?aP (fun _ hk => hk.elim) ?aF ?aO ?aB ?aS ?aL ?_; (case aP => exact rfl); (case aB => exact (by repeat (first | (with_reducible first | exact HB.out | apply below_alloc | apply Go.Proofs.Ytnjbobboookfmaa.Ext.below_bytes | apply pw_below_drewN | apply below_drew1) | exact HB.out))); (case aF => exact (fun _ _ => trivial)); (case aO => exact (by (with_reducible repeat (first | apply Kd.R_alloc | apply Go.Proofs.Ytnjbobboookfmaa.Ext.R_bytes | apply Kd.R_drewN | apply Kd.R_drew)); exact HO_7.out)); (case aS => exact (below_size (by repeat (first | (with_reducible first | exact HB.out | apply below_alloc | apply Go.Proofs.Ytnjbobboookfmaa.Ext.below_bytes | apply pw_below_drewN | apply below_drew1) | exact HB.out)))); (case aL => have := LMc26.out; omega); intro v123 w27 ho hb hg hat; rw [← Ny122.out] at ho; have n0_ := Aside0.mk (hb); have n1_ := Aside0.mk (ho); clear HB; clear HO_7; have HB := n0_; have HO124 := n1_; clear n0_ n1_; clear ho hb hg hat))
                              go_ret
                              exact ⟨_, by first | rfl | (simp [errW_none, errW_some] <;> rfl) | (simp [*, errW_none, errW_some] <;> rfl), by (with_reducible repeat (first | apply Kd.R_alloc | apply Go.Proofs.Ytnjbobboookfmaa.Ext.R_bytes | apply Kd.R_drewN | apply Kd.R_drew)); exact HO124.out, by repeat (first | (with_reducible first | exact HB.out | apply below_alloc | apply Go.Proofs.Ytnjbobboookfmaa.Ext.below_bytes | apply pw_below_drewN | apply below_drew1) | exact HB.out)⟩
                            · rw [if_neg c26] at H
                              exact absurd H (by simp)
                          · rw [if_neg c25] at H
                            have c25b0 : (t121 == (-1)) = false := beq_eq_false_iff_ne.mpr c25
                            have c25b1 : (t121 != (-1)) = true := bne_iff_ne.mpr c25
                            by_cases c28 : x7_4.length < 17592186044416
                            · rw [if_pos c28] at H
                              have LMc28 := Aside0.mk c28
                              clear c28
                              obtain ⟨y125, hy125⟩ : ∃ y_ : List Int, y_ = (x7_4 ++ [t121]) := ⟨_, rfl⟩
                              replace H : (some y125) = some r := by first | (rw [hy125]; with_reducible exact H) | (have H2_ := (Option.bind_some _ _).symm.trans H; rw [hy125]; with_reducible exact H2_) | (have H2_ := (Option.bind_some _ _).symm.trans H; with_reducible exact H2_) | with_reducible exact H | (rw [hy125]; exact H) | exact H
                              have Ny125 := Aside0.mk hy125
                              clear hy125
                              obtain rfl := Option.some.inj H
                              go_wp2_with (first | ((with_reducible refine gate_callee (f := 28) rfl ?_); refine goesL_ (some 55) rfl rfl Try.func28 (by kernel_rfl) rfl #[.slice A0 l0.length c0, .int .i64 x6_4] rfl (by (try simp only [List.map_toArray, List.map_cons, List.map_nil]); first | done | rfl | (simp only [List.length_drop, List.length_take]; rfl) | (simp [Act.eval, *]; done) | (simp [Act.eval, *]; unfold wrap64; omega)) ?_; (with_reducible refine (parser_HasMore.calls _ _ l0 x6_4 false _ ?side1 ?side2 A16.out).mono ?_); (case side1 => repeat (first | exact (Kd.C_below HR0.out HB.out) | (with_reducible refine Kd.C_alloc ?_ _) | (with_reducible refine Kd.C_drewN ?_ _) | (with_reducible refine Kd.C_drew ?_))); (case side2 => exact HC0.out); rintro e w' ⟨rfl, ⟨nd, rfl⟩⟩; refine ⟨_, rfl, ?_⟩) | ((with_reducible refine gate_callee (f := 27) rfl ?_); refine goesL_ (some 68) rfl rfl Try.func27 (by kernel_rfl) rfl #[.slice A0 l0.length c0, .int .i64 x6_4] rfl (by (try simp only [List.map_toArray, List.map_cons, List.map_nil]); first | done | rfl | (simp only [List.length_drop, List.length_take]; rfl) | (simp [Act.eval, *]; done) | (simp [Act.eval, *]; unfold wrap64; omega)) ?_; (with_reducible refine (parser_Param.calls _ _ l0 x6_4 t121 _ ?side1 ?side2 A24.out).mono ?_); (case side1 => repeat (first | exact (Kd.C_below HR0.out (by repeat (first | (with_reducible first | exact HB.out | apply below_alloc | apply Go.Proofs.Ytnjbobboookfmaa.Ext.below_bytes | apply pw_below_drewN | apply below_drew1) | exact HB.out))) | (with_reducible refine Kd.C_alloc ?_ _) | (with_reducible refine Kd.C_drewN ?_ _) | (with_reducible refine Kd.C_drew ?_))); (case side2 => exact HC0.out); rintro e w' ⟨rfl, ⟨nd, rfl⟩⟩; refine ⟨_, rfl, ?_⟩) | ((with_reducible refine gate_builtin (b := .append) (xs := #[.tmp 71, .tmp 73]) rfl ?_); (try (refine gate_guard (by rfl) ?_; dsimp only)); at_builtin; refine Kd.R_append (Kd.int .i64) (w0 := w) w.heap.size rfl (.tmp 71) (.tmp 73) 64 3 (.int .i64 0) 8 rfl Try.underlying64 info3 rfl (by decide) (by omega) u7 x7_4 t121 [.int .i64 t121] (fun _ => True) (fun _ => False) rfl rfl ?aP (fun _ hk => hk.elim) ?aF ?aO ?aB ?aS ?aL ?_; (case aP => exact rfl); (case aB => exact (by repeat (first | (with_reducible first | exact HB.out | apply below_alloc | apply Go.Proofs.Ytnjbobboookfmaa.Ext.below_bytes | apply pw_below_drewN | apply below_drew1) | exact HB.out))); (case aF => exact (fun _ _ => trivial)); (case aO => exact (by (with_reducible repeat (first | apply Kd.R_alloc | apply Go.Proofs.Ytnjbobboookfmaa.Ext.R_bytes | apply Kd.R_drewN | apply Kd.R_drew)); exact HO_7.out)); (case aS => exact (below_size (by repeat (first | (with_reducible first | exact HB.out | apply below_alloc | apply Go.Proofs.Ytnjbobboookfmaa.Ext.below_bytes | apply pw_below_drewN | apply below_drew1) | exact HB.out)))); (case aL => have := LMc28.out; omega); intro v126 w29 ho hb hg hat; rw [← Ny125.out] at ho; have n0_ := Aside0.mk (hb); have n1_ := Aside0.mk (ho); clear HB; clear HO_7; have HB := n0_; have HO127 := n1_; clear n0_ n1_; clear ho hb hg hat))
                              go_ret
                              exact ⟨_, by first | rfl | (simp [errW_none, errW_some] <;> rfl) | (simp [*, errW_none, errW_some] <;> rfl), by (with_reducible repeat (first | apply Kd.R_alloc | apply Go.Proofs.Ytnjbobboookfmaa.Ext.R_bytes | apply Kd.R_drewN | apply Kd.R_drew)); exact HO127.out, by repeat (first | (with_reducible first | exact HB.out | apply below_alloc | apply Go.Proofs.Ytnjbobboookfmaa.Ext.below_bytes | apply pw_below_drewN | apply below_drew1) | exact HB.out)⟩
                            · rw [if_neg c28] at H
                              exact absurd H (by simp)
                      · rw [if_neg c15] at H
                        have c15b0 : decide (x6_4 < (l0.length : Int)) = false := decide_eq_false c15
                        clear c15
                        replace H := Option.bind_eq_some_iff.mp H
                        obtain ⟨t128, A300, H⟩ := H
                        replace H : (if t128 = (-1) then (if x7_4.length < 17592186044416 then (some (x7_4 ++ [0])) else (none)) else (if x7_4.length < 17592186044416 then (some (x7_4 ++ [t128])) else (none))) = some r := H
                        have A30 := Aside0.mk A300
                        clear A300
                        by_cases c31 : t128 = (-1)
                        · rw [if_pos c31] at H
                          have c31b0 : (t128 == (-1)) = true := beq_iff_eq.mpr c31
                          have c31b1 : (t128 != (-1)) = false := bne_eq_false_iff_eq.mpr c31
                          clear c31
                          by_cases c32 : x7_4.length < 17592186044416
                          · rw [if_pos c32] at H
                            have LMc32 := Aside0.mk c32
                            clear c32
                            obtain ⟨y129, hy129⟩ : ∃ y_ : List Int, y_ = (x7_4 ++ [0]) := ⟨_, rfl⟩
                            replace H : (some y129) = some r := by first | (rw [hy129]; with_reducible exact H) | (have H2_ := (Option.bind_some _ _).symm.trans H; rw [hy129]; with_reducible exact H2_) | (have H2_ := (Option.bind_some _ _).symm.trans H; with_reducible exact H2_) | with_reducible exact H | (rw [hy129]; exact H) | exact H
                            have Ny129 := Aside0.mk hy129
                            clear hy129
                            obtain rfl := Option.some.inj H
                            go_wp2_with (first | ((with_reducible refine gate_callee (f := 27) rfl ?_); refine goesL_ (some 68) rfl rfl Try.func27 (by kernel_rfl) rfl #[.slice A0 l0.length c0, .int .i64 x6_4] rfl (by (try simp only [List.map_toArray, List.map_cons, List.map_nil]); first | done | rfl | (simp only [List.length_drop, List.length_take]; rfl) | (simp [Act.eval, *]; done) | (simp [Act.eval, *]; unfold wrap64; omega)) ?_; (with_reducible refine (parser_Param.calls _ _ l0 x6_4 t128 _ ?side1 ?side2 A30.out).mono ?_); (case side1 => repeat (first | exact (Kd.C_below HR0.out HB.out) | (with_reducible refine Kd.C_alloc ?_ _) | (with_reducible refine Kd.C_drewN ?_ _) | (with_reducible refine Kd.C_drew ?_))); (case side2 => exact HC0.out); rintro e w' ⟨rfl, ⟨nd, rfl⟩⟩; refine ⟨_, rfl, ?_⟩) | ((with_reducible refine gate_builtin (b := .append) (xs := #[.tmp 71, .tmp 73]) rfl ?_); (try (refine gate_guard (by rfl) ?_; dsimp only)); at_builtin; refine Kd.R_append (Kd.int .i64) (w0 := w) w.heap.size rfl (.tmp 71) (.tmp 73) 64 3 (.int .i64 0) 8 rfl Try.underlying64 info3 rfl (by decide) (by omega) u7 x7_4 0 [.int .i64 0] (fun _ => True) (fun _ => False) rfl rfl ?aP (fun _ hk => hk.elim) ?aF ?aO ?aB ?aS ?aL ?_; (case aP => exact rfl); (case aB => exact (by repeat (first | (with_reducible first | exact HB.out | apply below_alloc | apply Go.Proofs.Ytnjbobboookfmaa.Ext.below_bytes | apply pw_below_drewN | apply below_drew1) | exact HB.out))); (case aF => exact (fun _ _ => trivial)); (case aO => exact (by (with_reducible repeat (first | apply Kd.R_alloc | apply Go.Proofs.Ytnjbobboookfmaa.Ext.R_bytes | apply Kd.R_drewN | apply Kd.R_drew)); exact HO_7.out)); (case aS => exact (below_size (by repeat (first | (with_reducible first | exact HB.out | apply below_alloc | apply Go.Proofs.Ytnjbobboookfmaa.Ext.below_bytes | apply pw_below_drewN | apply below_drew1) | exact HB.out)))); (case aL => have := LMc32.out; omega); intro v130 w33 ho hb hg hat; rw [← Ny129.out] at ho; have n0_ := Aside0.mk (hb); have n1_ := Aside0.mk (ho); clear HB; clear HO_7; have HB := n0_; have HO131 := n1_; clear n0_ n1_; clear ho hb hg hat))
                            go_ret
                            exact ⟨_, by first | rfl | (simp [errW_none, errW_some] <;> rfl) | (simp [*, errW_none, errW_some] <;> rfl), by (with_reducible repeat (first | apply Kd.R_alloc | apply Go.Proofs.Ytnjbobboookfmaa.Ext.R_bytes | apply Kd.R_drewN | apply Kd.R_drew)); exact HO131.out, by repeat (first | (with_reducible first | exact HB.out | apply below_alloc | apply Go.Proofs.Ytnjbobboookfmaa.Ext.below_bytes | apply pw_below_drewN | apply below_drew1) | exact HB.out)⟩
                          · rw [if_neg c32] at H
                            exact absurd H (by simp)
                        · rw [if_neg c31] at H
                          have c31b0 : (t128 == (-1)) = false := beq_eq_false_iff_ne.mpr c31
                          have c31b1 : (t128 != (-1)) = true := bne_iff_ne.mpr c31
                          by_cases c34 : x7_4.length < 17592186044416
                          · rw [if_pos c34] at H
                            have LMc34 := Aside0.mk c34
                            clear c34
                            obtain ⟨y132, hy132⟩ : ∃ y_ : List Int, y_ = (x7_4 ++ [t128]) := ⟨_, rfl⟩
                            replace H : (some y132) = some r := by first | (rw [hy132]; with_reducible exact H) | (have H2_ := (Option.bind_some _ _).symm.trans H; rw [hy132]; with_reducible exact H2_) | (have H2_ := (Option.bind_some _ _).symm.trans H; with_reducible exact H2_) | with_reducible exact H | (rw [hy132]; exact H) | exact H
                            have Ny132 := Aside0.mk hy132
                            clear hy132
                            obtain rfl := Option.some.inj H
                            go_wp2_with (first | ((with_reducible refine gate_callee (f := 27) rfl ?_); refine goesL_ (some 68) rfl rfl Try.func27 (by kernel_rfl) rfl #[.slice A0 l0.length c0, .int .i64 x6_4] rfl (by (try simp only [List.map_toArray, List.map_cons, List.map_nil]); first | done | rfl | (simp only [List.length_drop, List.length_take]; rfl) | (simp [Act.eval, *]; done) | (simp [Act.eval, *]; unfold wrap64; omega)) ?_; (with_reducible refine (parser_Param.calls _ _ l0 x6_4 t128 _ ?side1 ?side2 A30.out).mono ?_); (case side1 => repeat (first | exact (Kd.C_below HR0.out HB.out) | (with_reducible refine Kd.C_alloc ?_ _) | (with_reducible refine Kd.C_drewN ?_ _) | (with_reducible refine Kd.C_drew ?_))); (case side2 => exact HC0.out); rintro e w' ⟨rfl, ⟨nd, rfl⟩⟩; refine ⟨_, rfl, ?_⟩) | ((with_reducible refine gate_builtin (b := .append) (xs := #[.tmp 71, .tmp 73]) rfl ?_); (try (refine gate_guard (by rfl) ?_; dsimp only)); at_builtin; refine Kd.R_append (Kd.int .i64) (w0 := w) w.heap.size rfl (.tmp 71) (.tmp 73) 64 3 (.int .i64 0) 8 rfl Try.underlying64 info3 rfl (by decide) (by omega) u7 x7_4 t128 [.int .i64 t128] (fun _ => True) (fun _ => False) rfl rfl ?aP (fun _ hk => hk.elim) ?aF ?aO ?aB ?aS ?aL ?_; (case aP => exact rfl); (case aB => exact (by repeat (first | (with_reducible first | exact HB.out | apply below_alloc | apply Go.Proofs.Ytnjbobboookfmaa.Ext.below_bytes | apply pw_below_drewN | apply below_drew1) | exact HB.out))); (case aF => exact (fun _ _ => trivial)); (case aO => exact (by (with_reducible repeat (first | apply Kd.R_alloc | apply Go.Proofs.Ytnjbobboookfmaa.Ext.R_bytes | apply Kd.R_drewN | apply Kd.R_drew)); exact HO_7.out)); (case aS => exact (below_size (by repeat (first | (with_reducible first | exact HB.out | apply below_alloc | apply Go.Proofs.Ytnjbobboookfmaa.Ext.below_bytes | apply pw_below_drewN | apply below_drew1) | exact HB.out)))); (case aL => have := LMc34.out; omega); intro v133 w35 ho hb hg hat; rw [← Ny132.out] at ho; have n0_ := Aside0.mk (hb); have n1_ := Aside0.mk (ho); clear HB; clear HO_7; have HB := n0_; have HO134 := n1_; clear n0_ n1_; clear ho hb hg hat))
                            go_ret
                            exact ⟨_, by first | rfl | (simp [errW_none, errW_some] <;> rfl) | (simp [*, errW_none, errW_some] <;> rfl), by (with_reducible repeat (first | apply Kd.R_alloc | apply Go.Proofs.Ytnjbobboookfmaa.Ext.R_bytes | apply Kd.R_drewN | apply Kd.R_drew)); exact HO134.out, by repeat (first | (with_reducible first | exact HB.out | apply below_alloc | apply Go.Proofs.Ytnjbobboookfmaa.Ext.below_bytes | apply pw_below_drewN | apply below_drew1) | exact HB.out)⟩
                          · rw [if_neg c34] at H
                            exact absurd H (by simp)

/-! ### parser_Len: function 30 -/
def parser_Len.l0 : Nat → List Int → Int → Int → Int → Option (Int)
  | 0, _, _, _, _ => none
  | k + 1, x0, x3, x6, x7 => if x7 < x6 then ((parser_HasMore.f x0 x7).bind fun t135 => (if t135 = true then (parser_Len.l0 k x0 x3 x6 (wrap64 (x7 + 1))) else (parser_Len.l0 k x0 (wrap64 (x3 + 1)) x6 (wrap64 (x7 + 1))))) else (some x3)
def parser_Len.f (k : Nat) (l0 : List Int) : Option (Int) := parser_Len.l0 k l0 0 (l0.length : Int) 0
theorem parser_Len.mono_l : ∀ k, (∀ y0 y1 y2 y3, LeO (parser_Len.l0 k y0 y1 y2 y3) (parser_Len.l0 (k + 1) y0 y1 y2 y3))
  | 0 => fun _ _ _ _ r h => by simp [parser_Len.l0] at h
  | k + 1 => by
    have ih0 := parser_Len.mono_l k
    · intro y0 y1 y2 y3
      unfold parser_Len.l0
      repeat' first
      | (with_reducible exact ih0 _ _ _ _)
      | (with_reducible exact LeO.refl _)
      | (with_reducible exact LeO.none _)
      | (with_reducible refine LeO.ite ?_ ?_)
      | (with_reducible refine LeO.bind ?_ (fun _ => ?_))
      | exact ih0 _ _ _ _
      | exact LeO.none _
      | refine LeO.ite ?_ ?_
      | refine LeO.bind ?_ (fun _ => ?_)
theorem parser_Len.mono : ∀ a0 k, LeO (parser_Len.f k a0) (parser_Len.f (k + 1) a0) := by
  intro a0 k
  have ih0 := parser_Len.mono_l k
  unfold parser_Len.f
  repeat' first
      | (with_reducible exact ih0 _ _ _ _)
      | (with_reducible exact LeO.refl _)
      | (with_reducible exact LeO.none _)
      | (with_reducible refine LeO.ite ?_ ?_)
      | (with_reducible refine LeO.bind ?_ (fun _ => ?_))
      | exact ih0 _ _ _ _
      | exact LeO.none _
      | refine LeO.ite ?_ ?_
      | refine LeO.bind ?_ (fun _ => ?_)
set_option maxHeartbeats 8000000 in
set_option maxRecDepth 100000 in
theorem parser_Len.calls (k : Nat) (A0 : Option Addr) (c0 : Nat) (l0 : List Int) (r : Int) (w : World) (hr0 : Kd.C (Kd.int .i64) w A0 l0.length l0) (hc0 : l0.length ≤ c0) (h : parser_Len.f k l0 = some r) :
    Calls Try.prog 30 #[.slice A0 l0.length c0] w fun e w' => e = .returned (.int .i64 r) ∧ Drawn0 w w' := by
  have HR0 := Aside0.mk hr0
  have HC0 := Aside0.mk hc0
  clear hr0 hc0
  have H : (parser_Len.l0 k l0 0 (l0.length : Int) 0) = some r := h
  clear h
  have H' := Aside0.mk H
  clear H
  go_enter Try.func30, Try.ntmps30
  go_wp2
  go_loopg [3, 7] k (fun kq v3 v7 w' => ∃ (x3_1 : Int) (x7_1 : Int), v3 = .int .i64 x3_1 ∧ v7 = .int .i64 x7_1 ∧ Aside0 (parser_Len.l0 kq l0 x3_1 (l0.length : Int) x7_1 = some r) ∧ Aside0 (kq ≤ k) ∧ Drawn0 w w')
  case atStart => exact ⟨(0), (0), (by first | rfl | (simp; done) | (simp [*]; done)), (by first | rfl | (simp; done) | (simp [*]; done)), H', ⟨Nat.le_refl _⟩, by repeat (first | exact Drawn0.refl _ | apply Drawn0.step)⟩
  case round =>
    clear H'
    obtain ⟨x3_1, x7_1, rfl, rfl, HA, HK1, ⟨m1, rfl⟩⟩ := hrel
    cases gk with
    | zero => exact absurd HA.out (by simp [parser_Len.l0])
    | succ k1 =>
      have H := HA.out
      clear HA
      simp only [parser_Len.l0] at H
      by_cases c2 : x7_1 < (l0.length : Int)
      · rw [if_pos c2] at H
        have c2b0 : decide (x7_1 < (l0.length : Int)) = true := decide_eq_true c2
        clear c2
        replace H := Option.bind_eq_some_iff.mp H
        obtain ⟨t135, A30, H⟩ := H
        replace H : (if t135 = true then (parser_Len.l0 k1 l0 x3_1 (l0.length : Int) (wrap64 (x7_1 + 1))) else (parser_Len.l0 k1 l0 (wrap64 (x3_1 + 1)) (l0.length : Int) (wrap64 (x7_1 + 1)))) = some r := H
        have A3 := Aside0.mk A30
        clear A30
        by_cases c4 : t135 = true
        · subst c4
          have H1 : (parser_Len.l0 k1 l0 x3_1 (l0.length : Int) (wrap64 (x7_1 + 1))) = some r := by rw [if_pos rfl] at H; exact H
          clear H
          have H := H1
          clear H1
          have H' := Aside0.mk H
          clear H
          go_wp2_with (first | ((with_reducible refine gate_callee (f := 28) rfl ?_); refine goesL_ (some 12) rfl rfl Try.func28 (by kernel_rfl) rfl #[.slice A0 l0.length c0, .int .i64 x7_1] rfl (by (try simp only [List.map_toArray, List.map_cons, List.map_nil]); first | done | rfl | (simp only [List.length_drop, List.length_take]; rfl) | (simp [Act.eval, *]; done) | (simp [Act.eval, *]; unfold wrap64; omega)) ?_; (with_reducible refine (parser_HasMore.calls _ _ l0 x7_1 true _ ?side1 ?side2 A3.out).mono ?_); (case side1 => repeat (first | exact HR0.out | (with_reducible refine Kd.C_alloc ?_ _) | (with_reducible refine Kd.C_drewN ?_ _) | (with_reducible refine Kd.C_drew ?_))); (case side2 => exact HC0.out); rintro e w' ⟨rfl, ⟨nd, rfl⟩⟩; refine ⟨_, rfl, ?_⟩))
          go_roundg k1
          case measure => have := HK1.out; omega
          case rel => exact ⟨(x3_1), (wrap64 (x7_1 + 1)), (by first | rfl | (simp; done) | (simp [*]; done)), (by first | rfl | (simp; done) | (simp [*]; done)), H', ⟨by have := HK1.out; omega⟩, by repeat (first | exact Drawn0.refl _ | apply Drawn0.step)⟩
        · replace c4 := Bool.eq_false_iff.mpr c4
          subst c4
          have H1 : (parser_Len.l0 k1 l0 (wrap64 (x3_1 + 1)) (l0.length : Int) (wrap64 (x7_1 + 1))) = some r := by rw [if_neg (show ¬ (false = true) by decide)] at H; exact H
          clear H
          have H := H1
          clear H1
          have H' := Aside0.mk H
          clear H
          go_wp2_with (first | ((with_reducible refine gate_callee (f := 28) rfl ?_); refine goesL_ (some 12) rfl rfl Try.func28 (by kernel_rfl) rfl #[.slice A0 l0.length c0, .int .i64 x7_1] rfl (by (try simp only [List.map_toArray, List.map_cons, List.map_nil]); first | done | rfl | (simp only [List.length_drop, List.length_take]; rfl) | (simp [Act.eval, *]; done) | (simp [Act.eval, *]; unfold wrap64; omega)) ?_; (with_reducible refine (parser_HasMore.calls _ _ l0 x7_1 false _ ?side1 ?side2 A3.out).mono ?_); (case side1 => repeat (first | exact HR0.out | (with_reducible refine Kd.C_alloc ?_ _) | (with_reducible refine Kd.C_drewN ?_ _) | (with_reducible refine Kd.C_drew ?_))); (case side2 => exact HC0.out); rintro e w' ⟨rfl, ⟨nd, rfl⟩⟩; refine ⟨_, rfl, ?_⟩))
          go_roundg k1
          case measure => have := HK1.out; omega
          case rel => exact ⟨(wrap64 (x3_1 + 1)), (wrap64 (x7_1 + 1)), (by first | rfl | (simp; done) | (simp [*]; done)), (by first | rfl | (simp; done) | (simp [*]; done)), H', ⟨by have := HK1.out; omega⟩, by repeat (first | exact Drawn0.refl _ | apply Drawn0.step)⟩
      · rw [if_neg c2] at H
        have c2b0 : decide (x7_1 < (l0.length : Int)) = false := decide_eq_false c2
        clear c2
        obtain rfl := Option.some.inj H
        go_wp2
        go_ret
        exact ⟨by first | rfl | (simp; done) | (simp [*]; done), by repeat (first | exact Drawn0.refl _ | apply Drawn0.step)⟩

end Go.Proofs.Ytnjbobboookfmaa.PE
