-- Written by wip/pp.py, a program of this session, out of the translation. Not trusted: Lean checks it.
import Derived.Test.YtiledebjfflmmaaPTx0
namespace Go.Proofs.Ytiledebjfflmmaa.PT
open Go.RowKit Go.Proofs.YtiledebjfflmmaaW.PrintWords Go.Proofs.YtiledebjfflmmaaW.PrintLast Go.Proofs.YtiledebjfflmmaaW.PrintMore
attribute [local go_sem] max2_int min2_int max_two min_two max_three min_three max_four min_four   -- for this text's walks alone
attribute [local go_sem] Go.Proofs.Ytiledebjfflmmaa.Ext.wrap64_mod256 Go.Proofs.Ytiledebjfflmmaa.Ext.wrap64_mod32 Go.Proofs.Ytiledebjfflmmaa.Ext.i64_mod256 Go.Proofs.Ytiledebjfflmmaa.Ext.i64_mod32 Go.Proofs.Ytiledebjfflmmaa.Ext.i64_u8 Go.Proofs.Ytiledebjfflmmaa.Ext.w64_u8 Go.Proofs.Ytiledebjfflmmaa.Ext.i64_u32 Go.Proofs.Ytiledebjfflmmaa.Ext.w64_u32 
set_option linter.unusedVariables false
set_option linter.unusedSimpArgs false

/-! ### xansi_ToParams: function 11 -/
def xansi_ToParams.l0 : Nat → List Int → List Int → Int → Int → Option (List Int)
  | 0, _, _, _, _ => none
  | k + 1, x0, x3, x9, x10 => if x10 < x9 then (if 0 ≤ x10 then (if x10 < (x0.length : Int) then (if x10 < (x3.length : Int) then (xansi_ToParams.l0 k x0 (x3.set (x10 : Int).toNat (rd x0 x10)) x9 (wrap64 (x10 + 1))) else (none)) else (none)) else (none)) else (some x3)
def xansi_ToParams.f (k : Nat) (l0 : List Int) : Option (List Int) := if 0 ≤ (l0.length : Int) then (if ((l0.length : Int) : Int).toNat ≤ 35184372088832 then ((some (List.replicate ((l0.length : Int) : Int).toNat 0 : List Int)).bind fun y101 => (xansi_ToParams.l0 k l0 y101 (y101.length : Int) 0)) else (none)) else (none)
theorem xansi_ToParams.mono_l : ∀ k, (∀ y0 y1 y2 y3, LeO (xansi_ToParams.l0 k y0 y1 y2 y3) (xansi_ToParams.l0 (k + 1) y0 y1 y2 y3))
  | 0 => fun _ _ _ _ r h => by simp [xansi_ToParams.l0] at h
  | k + 1 => by
    have ih0 := xansi_ToParams.mono_l k
    · intro y0 y1 y2 y3
      unfold xansi_ToParams.l0
      repeat' first
      | (with_reducible exact ih0 _ _ _ _)
      | (with_reducible exact LeO.refl _)
      | (with_reducible exact LeO.none _)
      | (with_reducible refine LeO.ite ?_ ?_)
      | (with_reducible refine LeO.bind ?_ (fun _ => ?_))
      | exact ih0 _ _ _ _
      | exact LeO.none _
      | refine LeO.ite ?_ ?_
      | refine LeO.bind ?_ (fun _ => ?_)
theorem xansi_ToParams.mono : ∀ a0 k, LeO (xansi_ToParams.f k a0) (xansi_ToParams.f (k + 1) a0) := by
  intro a0 k
  have ih0 := xansi_ToParams.mono_l k
  unfold xansi_ToParams.f
  repeat' first
      | (with_reducible exact ih0 _ _ _ _)
      | (with_reducible exact LeO.refl _)
      | (with_reducible exact LeO.none _)
      | (with_reducible refine LeO.ite ?_ ?_)
      | (with_reducible refine LeO.bind ?_ (fun _ => ?_))
      | exact ih0 _ _ _ _
      | exact LeO.none _
      | refine LeO.ite ?_ ?_
      | refine LeO.bind ?_ (fun _ => ?_)
set_option maxHeartbeats 8000000 in
set_option maxRecDepth 100000 in
theorem xansi_ToParams.calls (k : Nat) (A0 : Option Addr) (c0 : Nat) (l0 : List Int) (r : List Int) (w : World) (hr0 : Kd.C (Kd.int .i64) w A0 l0.length l0) (hc0 : l0.length ≤ c0) (h : xansi_ToParams.f k l0 = some r) :
    Calls Try.prog 11 #[.slice A0 l0.length c0] w fun e w' => ∃ v0_ : Value, e = .returned (v0_) ∧ Kd.R (Kd.int .i64) 42 w' w.heap.size (fun _ => True) v0_ r ∧ Below w.heap.size w w' := by
  have HR0 := Aside0.mk hr0
  have HC0 := Aside0.mk hc0
  clear hr0 hc0
  have HB := Aside0.mk (Below.refl w.heap.size w)
  have H : (if 0 ≤ (l0.length : Int) then (if ((l0.length : Int) : Int).toNat ≤ 35184372088832 then ((some (List.replicate ((l0.length : Int) : Int).toNat 0 : List Int)).bind fun y101 => (xansi_ToParams.l0 k l0 y101 (y101.length : Int) 0)) else (none)) else (none)) = some r := h
  clear h
  by_cases c2 : 0 ≤ (l0.length : Int)
  · rw [if_pos c2] at H
    have c2b0 := eq_true c2
    have c2b1 : decide (0 ≤ (l0.length : Int)) = true := decide_eq_true c2
    clear c2
    by_cases c3 : ((l0.length : Int) : Int).toNat ≤ 35184372088832
    · rw [if_pos c3] at H
      have c3b0 := eq_true c3
      have c3b1 : decide (((l0.length : Int) : Int).toNat ≤ 35184372088832) = true := decide_eq_true c3
      clear c3
      obtain ⟨y101, hy101⟩ : ∃ y_ : List Int, y_ = (List.replicate ((l0.length : Int) : Int).toNat 0) := ⟨_, rfl⟩
      replace H : (xansi_ToParams.l0 k l0 y101 (y101.length : Int) 0) = some r := by first | (rw [hy101]; with_reducible exact H) | (have H2_ := (Option.bind_some _ _).symm.trans H; rw [hy101]; with_reducible exact H2_) | (have H2_ := (Option.bind_some _ _).symm.trans H; with_reducible exact H2_) | with_reducible exact H | (rw [hy101]; exact H) | exact H
      have Ny101 := Aside0.mk hy101
      clear hy101
      have H' := Aside0.mk H
      clear H
      go_enter Try.func11, Try.ntmps11
      go_wp2_with (first | ((with_reducible refine gate_dst (N := 7) rfl ?_); refine Kd.R_make (Kd.int .i64) _ 42 rfl (N := 7) rfl 34 _ _ rfl (l0.length : Int) rfl rfl Try.underlying34 (.int .i64 0) 8 info42 rfl (by decide) (by omega) 0 (ok := fun _ => True) (okp := fun _ => True) rfl (fun _ hk => hk) trivial (of_decide_eq_true (by first | (with_reducible assumption) | assumption)) (Nat.le_trans (Nat.mul_le_mul_right _ (of_decide_eq_true (by first | (with_reducible assumption) | assumption) : (l0.length : Int).toNat ≤ 35184372088832)) (by omega)) (Below.refl _ _) (Nat.le_refl _) ?_; intro v102 w4 ho5 hb hg_ hnew_; clear hg_ hnew_; (first | rw [← Ny101.out] at ho5 | (simp only [Int.reduceToNat] at ho5; rw [← Ny101.out] at ho5)); have n0_ := Aside0.mk (Kd.R_lower ho5 (below_size (by repeat (first | (with_reducible first | exact HB.out | apply below_alloc | apply Go.Proofs.Ytiledebjfflmmaa.Ext.below_bytes | apply pw_below_drewN | apply below_drew1) | exact HB.out)))); have n1_ := Aside0.mk (below_step (by repeat (first | (with_reducible first | exact HB.out | apply below_alloc | apply Go.Proofs.Ytiledebjfflmmaa.Ext.below_bytes | apply pw_below_drewN | apply below_drew1) | exact HB.out)) hb); clear HB; have HO103 := n0_; have HB := n1_; clear n0_ n1_; clear hb ho5; obtain ⟨Ao6, co6, eo6⟩ := Kd.R_slice HO103.out; subst eo6))
      go_loopg [10] k (fun kq v10 w' => ∃ (x3_1 : List Int) (x10_1 : Int), v10 = .int .i64 x10_1 ∧ Aside0 (xansi_ToParams.l0 kq l0 x3_1 (y101.length : Int) x10_1 = some r) ∧ Aside0 (kq ≤ k) ∧ Aside0 (Kd.R (Kd.int .i64) 42 w' w.heap.size (fun _ => True) (.slice Ao6 y101.length co6) x3_1) ∧ Aside0 (Below w.heap.size w w'))
      case atStart => exact ⟨(y101), (0), (by first | rfl | (simp; done) | (simp [*]; done)), H', ⟨Nat.le_refl _⟩, ⟨by (with_reducible repeat (first | apply Kd.R_alloc | apply Go.Proofs.Ytiledebjfflmmaa.Ext.R_bytes | apply Kd.R_drewN | apply Kd.R_drew)); exact HO103.out⟩, ⟨by repeat (first | (with_reducible first | exact HB.out | apply below_alloc | apply Go.Proofs.Ytiledebjfflmmaa.Ext.below_bytes | apply pw_below_drewN | apply below_drew1) | exact HB.out)⟩⟩
      case round =>
        clear H'
        try clear c1
        try clear c2
        try clear c2b0
        try clear c2b1
        try clear p2
        try clear c3
        try clear c3b0
        try clear c3b1
        obtain ⟨x3_1, x10_1, rfl, HA, HK1, HO_3, HB⟩ := hrel
        have hl3_1 := (Kd.R_reads' HO_3.out).1
        rw [hl3_1] at HO_3
        (try simp only [hl3_1])
        cases gk with
        | zero => exact absurd HA.out (by simp [xansi_ToParams.l0])
        | succ k1 =>
          have H := HA.out
          clear HA
          simp only [xansi_ToParams.l0] at H
          by_cases c7 : x10_1 < (y101.length : Int)
          · rw [if_pos c7] at H
            have c7b0 : decide (x10_1 < (y101.length : Int)) = true := decide_eq_true c7
            (try (have c7b90 := c7b0; simp only [hl3_1] at c7b90))
            clear c7
            by_cases c8 : 0 ≤ x10_1
            · rw [if_pos c8] at H
              have c8b0 : decide (0 ≤ x10_1) = true := decide_eq_true c8
              clear c8
              by_cases c9 : x10_1 < (l0.length : Int)
              · rw [if_pos c9] at H
                have c9b0 : decide (x10_1 < (l0.length : Int)) = true := decide_eq_true c9
                (try (have c9b90 := c9b0; simp only [hl3_1] at c9b90))
                clear c9
                by_cases c10 : x10_1 < (x3_1.length : Int)
                · rw [if_pos c10] at H
                  have c10b0 : decide (x10_1 < (x3_1.length : Int)) = true := decide_eq_true c10
                  (try (have c10b90 := c10b0; simp only [hl3_1] at c10b90))
                  clear c10
                  obtain ⟨y105, hy105⟩ : ∃ y_ : List Int, y_ = (x3_1.set (x10_1 : Int).toNat (rd l0 x10_1)) := ⟨_, rfl⟩
                  replace H : (xansi_ToParams.l0 k1 l0 y105 (y101.length : Int) (wrap64 (x10_1 + 1))) = some r := by first | (rw [hy105]; with_reducible exact H) | (have H2_ := (Option.bind_some _ _).symm.trans H; rw [hy105]; with_reducible exact H2_) | (have H2_ := (Option.bind_some _ _).symm.trans H; with_reducible exact H2_) | with_reducible exact H | (rw [hy105]; exact H) | exact H
                  have Ny105 := Aside0.mk hy105
                  clear hy105
                  have H' := Aside0.mk H
                  clear H
                  have p104 : 0 ≤ (x10_1 : Int) := of_decide_eq_true (by first | (with_reducible assumption) | assumption)
                  have q104 : x10_1 < (l0.length : Int) := of_decide_eq_true (by first | (with_reducible assumption) | assumption)
                  obtain ⟨ad104, e104, hx104_0⟩ := Kd.at_int HR0.out x10_1 p104 q104
                  cases e104
                  replace hx104_0 := (HB.out.cell (World.block_lt_of_cell? w _ hx104_0)).trans hx104_0
                  replace p104 := eq_true p104
                  replace q104 := eq_true q104
                  have p11 : 0 ≤ (x10_1 : Int) := of_decide_eq_true (by first | (with_reducible assumption) | assumption)
                  have q11 : (x10_1 : Int) < ((x3_1.length : Int) : Int) := of_decide_eq_true (by first | (with_reducible assumption) | assumption)
                  obtain ⟨go11, co11, eo11, gb11, gl11, cl11, HG11⟩ := Kd.R_form HO_3.out (by omega)
                  (first | cases eo11 | (injection eo11 with ea_ en_ ec_; (first | subst ea_ | (injection ea_ with ea_; subst ea_)); subst ec_; clear en_))
                  have GB11 := Aside0.mk gb11
                  have GG11 := Aside0.mk HG11
                  clear gb11 gl11 HG11
                  obtain ⟨hx11_0, hf11_0⟩ := Kd.R_celln 0 HO_3.out (x10_1 : Int) p11 q11
                  replace p11 := eq_true p11
                  replace q11 := eq_true q11
                  have HP12 := Kd.R_putg HO_3.out (x10_1 : Int) (rd l0 x10_1)
                  go_wp2_with (first | ((with_reducible refine gate_store (t := 42) (p := 19) rfl ?_); refine store_event (t := 42) (p := 19) (v := ?vo_w13) (w1 := (wr.setCell ⟨go11, (x10_1 : Int).toNat, none⟩ (.int .i64 (rd l0 x10_1)))) ?hg ?ho ?hn ?hr ?_; (case ho => rfl); (case hg => rfl); (case hn => rfl); (case hr => first | (go_simp; done) | (go_simp; rfl)); intro w13 hw; have hg : wr.grownBy w13 (some go11) := (by rw [hw]; exact HP12.2); have hp_ : Kd.R (Kd.int .i64) 42 w13 w.heap.size (fun _ => True) (.slice (some ⟨go11, 0, none⟩) x3_1.length co6) y105 := (by rw [hw, Ny105.out]; exact HP12.1); clear HP12; have n0_ := Aside0.mk (hp_); have n1_ := Aside0.mk ((by rw [hw]; exact below_set (HB.out) GB11.out : Below w.heap.size w w13)); clear HO_3; clear HB; have HO_3 := n0_; have HB := n1_; clear n0_ n1_; clear hg hw hp_))
                  (try simp only [← hl3_1])
                  go_roundg k1
                  case measure => have := HK1.out; omega
                  case rel => exact ⟨(y105), (wrap64 (x10_1 + 1)), (by first | rfl | (simp; done) | (simp [*]; done)), H', ⟨by have := HK1.out; omega⟩, ⟨by (try simp only [hl3_1]); (with_reducible repeat (first | apply Kd.R_alloc | apply Go.Proofs.Ytiledebjfflmmaa.Ext.R_bytes | apply Kd.R_drewN | apply Kd.R_drew)); exact HO_3.out⟩, ⟨by repeat (first | (with_reducible first | exact HB.out | apply below_alloc | apply Go.Proofs.Ytiledebjfflmmaa.Ext.below_bytes | apply pw_below_drewN | apply below_drew1) | exact HB.out)⟩⟩
                · rw [if_neg c10] at H
                  exact absurd H (by simp)
              · rw [if_neg c9] at H
                exact absurd H (by simp)
            · rw [if_neg c8] at H
              exact absurd H (by simp)
          · rw [if_neg c7] at H
            have c7b0 : decide (x10_1 < (y101.length : Int)) = false := decide_eq_false c7
            (try (have c7b90 := c7b0; simp only [hl3_1] at c7b90))
            clear c7
            obtain rfl := Option.some.inj H
            go_wp2
            go_ret
            exact ⟨_, by first | rfl | (simp [errW_none, errW_some] <;> rfl) | (simp [*, errW_none, errW_some] <;> rfl), by (with_reducible repeat (first | apply Kd.R_alloc | apply Go.Proofs.Ytiledebjfflmmaa.Ext.R_bytes | apply Kd.R_drewN | apply Kd.R_drew)); exact HO_3.out, by repeat (first | (with_reducible first | exact HB.out | apply below_alloc | apply Go.Proofs.Ytiledebjfflmmaa.Ext.below_bytes | apply pw_below_drewN | apply below_drew1) | exact HB.out)⟩
    · rw [if_neg c3] at H
      exact absurd H (by simp)
  · rw [if_neg c2] at H
    exact absurd H (by simp)

/-! ### xansi_Param_Param: function 18 -/
def xansi_Param_Param.f (a0 : Int) (a1 : Int) : Option (Int) := if (Go.bits .and .i64 a0 2147483647) = 2147483647 then (some a1) else (some (Go.bits .and .i64 a0 2147483647))
set_option maxHeartbeats 8000000 in
set_option maxRecDepth 100000 in
theorem xansi_Param_Param.calls (a0 : Int) (a1 : Int) (r : Int) (w : World) (h : xansi_Param_Param.f a0 a1 = some r) :
    Calls Try.prog 18 #[.int .i64 a0, .int .i64 a1] w fun e w' => e = .returned (.int .i64 r) ∧ Drawn0 w w' := by
  have H : (if (Go.bits .and .i64 a0 2147483647) = 2147483647 then (some a1) else (some (Go.bits .and .i64 a0 2147483647))) = some r := h
  clear h
  by_cases c3 : (Go.bits .and .i64 a0 2147483647) = 2147483647
  · rw [if_pos c3] at H
    have c3b0 : ((Go.bits .and .i64 a0 2147483647) == 2147483647) = true := beq_iff_eq.mpr c3
    have c3b1 : ((Go.bits .and .i64 a0 2147483647) != 2147483647) = false := bne_eq_false_iff_eq.mpr c3
    clear c3
    obtain rfl := Option.some.inj H
    go_enter Try.func18, Try.ntmps18
    go_wp2
    go_ret
    exact ⟨by first | rfl | (simp; done) | (simp [*]; done), by repeat (first | exact Drawn0.refl _ | apply Drawn0.step)⟩
  · rw [if_neg c3] at H
    have c3b0 : ((Go.bits .and .i64 a0 2147483647) == 2147483647) = false := beq_eq_false_iff_ne.mpr c3
    have c3b1 : ((Go.bits .and .i64 a0 2147483647) != 2147483647) = true := bne_iff_ne.mpr c3
    obtain rfl := Option.some.inj H
    go_enter Try.func18, Try.ntmps18
    go_wp2
    go_ret
    exact ⟨by first | rfl | (simp; done) | (simp [*]; done), by repeat (first | exact Drawn0.refl _ | apply Drawn0.step)⟩

/-! ### xansi_Param_HasMore: function 19 -/
def xansi_Param_HasMore.f (a0 : Int) : Option (Bool) := some ((Go.bits .and .i64 a0 (-2147483648)) != 0)
set_option maxHeartbeats 8000000 in
set_option maxRecDepth 100000 in
theorem xansi_Param_HasMore.calls (a0 : Int) (r : Bool) (w : World) (h : xansi_Param_HasMore.f a0 = some r) :
    Calls Try.prog 19 #[.int .i64 a0] w fun e w' => e = .returned (.bool r) ∧ Drawn0 w w' := by
  have H : (some ((Go.bits .and .i64 a0 (-2147483648)) != 0)) = some r := h
  clear h
  obtain rfl := Option.some.inj H
  go_enter Try.func19, Try.ntmps19
  go_wp2
  go_ret
  exact ⟨by first | rfl | (simp; done) | (simp [*]; done), by repeat (first | exact Drawn0.refl _ | apply Drawn0.step)⟩

/-- THE ONE PURE STATEMENT of xansi_Param_HasMore: yours. -/
def xansi_Param_HasMore.Pure : Prop := ∀ (a0 : Int), (Lit.int .i64 a0).wf = true → xansi_Param_HasMore.f a0 = some true
theorem xansi_Param_HasMore.walk (P : xansi_Param_HasMore.Pure) (a0 : Int) (w : World) (w0 : (Lit.int .i64 a0).wf = true) :
    Calls Try.prog 19 #[.int .i64 a0] w fun e w' => e = .returned (.bool true) ∧ Below w.heap.size w w' := by
  have h := P a0 w0
  refine (xansi_Param_HasMore.calls a0 true w h).mono ?_
  rintro e w' ⟨rfl, hd⟩
  exact ⟨rfl, hd.below⟩

/-! ### parser_Param: function 21 -/
def parser_Param.j0 : Nat → List Int → Int → Bool → Option (Int)
  | 0, _, _, _ => none
  | k + 1, x0, x1, x18 => if x18 = true then (some (-1)) else (if 0 ≤ x1 then (if x1 < (x0.length : Int) then (if (Go.bits .and .i64 (rd x0 x1) 2147483647) = 2147483647 then (some (-1)) else (some (Go.bits .and .i64 (rd x0 x1) 2147483647))) else (none)) else (none))
def parser_Param.f (k : Nat) (l0 : List Int) (a1 : Int) : Option (Int) := if (l0.length : Int) = 0 then (parser_Param.j0 k l0 a1 true) else (if a1 < 0 then (parser_Param.j0 k l0 a1 true) else (parser_Param.j0 k l0 a1 (decide (a1 ≥ (l0.length : Int)))))
theorem parser_Param.mono_l : ∀ k, (∀ y0 y1 y2, LeO (parser_Param.j0 k y0 y1 y2) (parser_Param.j0 (k + 1) y0 y1 y2))
  | 0 => fun _ _ _ r h => by simp [parser_Param.j0] at h
  | k + 1 => by
    have ih0 := parser_Param.mono_l k
    · intro y0 y1 y2
      unfold parser_Param.j0
      repeat' first
      | (with_reducible exact ih0 _ _ _)
      | (with_reducible exact LeO.refl _)
      | (with_reducible exact LeO.none _)
      | (with_reducible refine LeO.ite ?_ ?_)
      | (with_reducible refine LeO.bind ?_ (fun _ => ?_))
      | exact ih0 _ _ _
      | exact LeO.none _
      | refine LeO.ite ?_ ?_
      | refine LeO.bind ?_ (fun _ => ?_)
theorem parser_Param.mono : ∀ a0 a1 k, LeO (parser_Param.f k a0 a1) (parser_Param.f (k + 1) a0 a1) := by
  intro a0 a1 k
  have ih0 := parser_Param.mono_l k
  unfold parser_Param.f
  repeat' first
      | (with_reducible exact ih0 _ _ _)
      | (with_reducible exact LeO.refl _)
      | (with_reducible exact LeO.none _)
      | (with_reducible refine LeO.ite ?_ ?_)
      | (with_reducible refine LeO.bind ?_ (fun _ => ?_))
      | exact ih0 _ _ _
      | exact LeO.none _
      | refine LeO.ite ?_ ?_
      | refine LeO.bind ?_ (fun _ => ?_)
set_option maxHeartbeats 8000000 in
set_option maxRecDepth 100000 in
theorem parser_Param.calls (k : Nat) (A0 : Option Addr) (c0 : Nat) (l0 : List Int) (a1 : Int) (r : Int) (w : World) (hr0 : Kd.C (Kd.int .i64) w A0 l0.length l0) (hc0 : l0.length ≤ c0) (h : parser_Param.f k l0 a1 = some r) :
    Calls Try.prog 21 #[.slice A0 l0.length c0, .int .i64 a1] w fun e w' => e = .returned (.int .i64 r) ∧ Drawn0 w w' := by
  have HR0 := Aside0.mk hr0
  have HC0 := Aside0.mk hc0
  clear hr0 hc0
  have H : (if (l0.length : Int) = 0 then (parser_Param.j0 k l0 a1 true) else (if a1 < 0 then (parser_Param.j0 k l0 a1 true) else (parser_Param.j0 k l0 a1 (decide (a1 ≥ (l0.length : Int)))))) = some r := h
  clear h
  have HC3 := Aside0.mk H
  clear H
  go_enter Try.func21, Try.ntmps21
  go_upto_region 1 with (fail)
  go_cut [18] (fun v18 wc => ∃ (kq : Nat) (x18_2 : Bool), v18 = .bool x18_2 ∧ Aside0 (parser_Param.j0 kq l0 a1 x18_2 = some r) ∧ Aside0 (kq ≤ k) ∧ Drawn0 w wc)
  case first =>
    have H := HC3.out
    clear HC3
    by_cases c4 : (l0.length : Int) = 0
    · rw [if_pos c4] at H
      have c4b0 : ((l0.length : Int) == 0) = true := beq_iff_eq.mpr c4
      have c4b1 : ((l0.length : Int) != 0) = false := bne_eq_false_iff_eq.mpr c4
      clear c4
      (first | rw [c4b0] | (simp only [i64_w, i32_w]; rw [c4b0]) | skip)
      have H' := Aside0.mk H
      clear H
      go_wp2
      go_meet
      case rel => exact ⟨_, (true), (by first | rfl | (simp; done) | (simp [*]; done)), H', ⟨by first | omega | exact Nat.le_refl _⟩, by repeat (first | exact Drawn0.refl _ | apply Drawn0.step)⟩
    · rw [if_neg c4] at H
      have c4b0 : ((l0.length : Int) == 0) = false := beq_eq_false_iff_ne.mpr c4
      have c4b1 : ((l0.length : Int) != 0) = true := bne_iff_ne.mpr c4
      have c4b2 : ¬ (l0 = []) := fun h_ => c4 (by rw [h_]; rfl)
      (first | rw [c4b0] | (simp only [i64_w, i32_w]; rw [c4b0]) | skip)
      by_cases c5 : a1 < 0
      · rw [if_pos c5] at H
        have c5b0 : decide (a1 < 0) = true := decide_eq_true c5
        clear c5
        have H' := Aside0.mk H
        clear H
        go_wp2
        go_meet
        case rel => exact ⟨_, (true), (by first | rfl | (simp; done) | (simp [*]; done)), H', ⟨by first | omega | exact Nat.le_refl _⟩, by repeat (first | exact Drawn0.refl _ | apply Drawn0.step)⟩
      · rw [if_neg c5] at H
        have c5b0 : decide (a1 < 0) = false := decide_eq_false c5
        clear c5
        have H' := Aside0.mk H
        clear H
        go_wp2
        go_meet
        case rel => exact ⟨_, (decide (a1 ≥ (l0.length : Int))), (by first | rfl | (simp; done) | (simp [*]; done)), H', ⟨by first | omega | exact Nat.le_refl _⟩, by repeat (first | exact Drawn0.refl _ | apply Drawn0.step)⟩
  case rest =>
    clear HC3
    try clear c2
    try clear p2
    try clear c4
    try clear c4b0
    try clear c4b1
    try clear c4b2
    try clear c5
    try clear c5b0
    obtain ⟨kq, x18_2, rfl, HA, HJ2, ⟨mc2, rfl⟩⟩ := hcut
    cases kq with
    | zero => exact absurd HA.out (by simp [parser_Param.j0])
    | succ kj2 =>
      have H := HA.out
      clear HA
      simp only [parser_Param.j0] at H
      by_cases c6 : x18_2 = true
      · subst c6
        have H1 : (some (-1)) = some r := by rw [if_pos rfl] at H; exact H
        clear H
        have H := H1
        clear H1
        obtain rfl := Option.some.inj H
        go_wp2
        go_ret
        exact ⟨by first | rfl | (simp; done) | (simp [*]; done), by repeat (first | exact Drawn0.refl _ | apply Drawn0.step)⟩
      · replace c6 := Bool.eq_false_iff.mpr c6
        subst c6
        have H1 : (if 0 ≤ a1 then (if a1 < (l0.length : Int) then (if (Go.bits .and .i64 (rd l0 a1) 2147483647) = 2147483647 then (some (-1)) else (some (Go.bits .and .i64 (rd l0 a1) 2147483647))) else (none)) else (none)) = some r := by rw [if_neg (show ¬ (false = true) by decide)] at H; exact H
        clear H
        have H := H1
        clear H1
        by_cases c7 : 0 ≤ a1
        · rw [if_pos c7] at H
          have c7b0 : decide (0 ≤ a1) = true := decide_eq_true c7
          clear c7
          by_cases c8 : a1 < (l0.length : Int)
          · rw [if_pos c8] at H
            have c8b0 : decide (a1 < (l0.length : Int)) = true := decide_eq_true c8
            clear c8
            by_cases c9 : (Go.bits .and .i64 (rd l0 a1) 2147483647) = 2147483647
            · rw [if_pos c9] at H
              have c9b0 : ((Go.bits .and .i64 (rd l0 a1) 2147483647) == 2147483647) = true := beq_iff_eq.mpr c9
              have c9b1 : ((Go.bits .and .i64 (rd l0 a1) 2147483647) != 2147483647) = false := bne_eq_false_iff_eq.mpr c9
              clear c9
              obtain rfl := Option.some.inj H
              have p106 : 0 ≤ (a1 : Int) := of_decide_eq_true (by first | (with_reducible assumption) | assumption)
              have q106 : a1 < (l0.length : Int) := of_decide_eq_true (by first | (with_reducible assumption) | assumption)
              obtain ⟨ad106, e106, hx106_0⟩ := Kd.at_int HR0.out a1 p106 q106
              cases e106
              replace p106 := eq_true p106
              replace q106 := eq_true q106
              go_wp2
              go_ret
              exact ⟨by first | rfl | (simp; done) | (simp [*]; done), by repeat (first | exact Drawn0.refl _ | apply Drawn0.step)⟩
            · rw [if_neg c9] at H
              have c9b0 : ((Go.bits .and .i64 (rd l0 a1) 2147483647) == 2147483647) = false := beq_eq_false_iff_ne.mpr c9
              have c9b1 : ((Go.bits .and .i64 (rd l0 a1) 2147483647) != 2147483647) = true := bne_iff_ne.mpr c9
              obtain rfl := Option.some.inj H
              have p106 : 0 ≤ (a1 : Int) := of_decide_eq_true (by first | (with_reducible assumption) | assumption)
              have q106 : a1 < (l0.length : Int) := of_decide_eq_true (by first | (with_reducible assumption) | assumption)
              obtain ⟨ad106, e106, hx106_0⟩ := Kd.at_int HR0.out a1 p106 q106
              cases e106
              replace p106 := eq_true p106
              replace q106 := eq_true q106
              go_wp2
              go_ret
              exact ⟨by first | rfl | (simp; done) | (simp [*]; done), by repeat (first | exact Drawn0.refl _ | apply Drawn0.step)⟩
          · rw [if_neg c8] at H
            exact absurd H (by simp)
        · rw [if_neg c7] at H
          exact absurd H (by simp)

/-! ### parser_HasMore: function 22 -/
def parser_HasMore.f (l0 : List Int) (a1 : Int) : Option (Bool) := if (l0.length : Int) = 0 then (some false) else (if a1 ≥ (l0.length : Int) then (some false) else (if 0 ≤ a1 then (if a1 < (l0.length : Int) then (some ((Go.bits .and .i64 (rd l0 a1) (-2147483648)) != 0)) else (none)) else (none)))
set_option maxHeartbeats 8000000 in
set_option maxRecDepth 100000 in
theorem parser_HasMore.calls (A0 : Option Addr) (c0 : Nat) (l0 : List Int) (a1 : Int) (r : Bool) (w : World) (hr0 : Kd.C (Kd.int .i64) w A0 l0.length l0) (hc0 : l0.length ≤ c0) (h : parser_HasMore.f l0 a1 = some r) :
    Calls Try.prog 22 #[.slice A0 l0.length c0, .int .i64 a1] w fun e w' => e = .returned (.bool r) ∧ Drawn0 w w' := by
  have HR0 := Aside0.mk hr0
  have HC0 := Aside0.mk hc0
  clear hr0 hc0
  have H : (if (l0.length : Int) = 0 then (some false) else (if a1 ≥ (l0.length : Int) then (some false) else (if 0 ≤ a1 then (if a1 < (l0.length : Int) then (some ((Go.bits .and .i64 (rd l0 a1) (-2147483648)) != 0)) else (none)) else (none)))) = some r := h
  clear h
  by_cases c3 : (l0.length : Int) = 0
  · rw [if_pos c3] at H
    have c3b0 : ((l0.length : Int) == 0) = true := beq_iff_eq.mpr c3
    have c3b1 : ((l0.length : Int) != 0) = false := bne_eq_false_iff_eq.mpr c3
    clear c3
    obtain rfl := Option.some.inj H
    go_enter Try.func22, Try.ntmps22
    go_wp2
    go_ret
    exact ⟨by first | rfl | (simp; done) | (simp [*]; done), by repeat (first | exact Drawn0.refl _ | apply Drawn0.step)⟩
  · rw [if_neg c3] at H
    have c3b0 : ((l0.length : Int) == 0) = false := beq_eq_false_iff_ne.mpr c3
    have c3b1 : ((l0.length : Int) != 0) = true := bne_iff_ne.mpr c3
    have c3b2 : ¬ (l0 = []) := fun h_ => c3 (by rw [h_]; rfl)
    by_cases c4 : a1 ≥ (l0.length : Int)
    · rw [if_pos c4] at H
      have c4b0 : decide ((l0.length : Int) ≤ a1) = true := decide_eq_true c4
      clear c4
      obtain rfl := Option.some.inj H
      go_enter Try.func22, Try.ntmps22
      go_wp2
      go_ret
      exact ⟨by first | rfl | (simp; done) | (simp [*]; done), by repeat (first | exact Drawn0.refl _ | apply Drawn0.step)⟩
    · rw [if_neg c4] at H
      have c4b0 : decide ((l0.length : Int) ≤ a1) = false := decide_eq_false c4
      clear c4
      by_cases c5 : 0 ≤ a1
      · rw [if_pos c5] at H
        have c5b0 : decide (0 ≤ a1) = true := decide_eq_true c5
        clear c5
        by_cases c6 : a1 < (l0.length : Int)
        · rw [if_pos c6] at H
          have c6b0 : decide (a1 < (l0.length : Int)) = true := decide_eq_true c6
          clear c6
          obtain rfl := Option.some.inj H
          have p107 : 0 ≤ (a1 : Int) := of_decide_eq_true (by first | (with_reducible assumption) | assumption)
          have q107 : a1 < (l0.length : Int) := of_decide_eq_true (by first | (with_reducible assumption) | assumption)
          obtain ⟨ad107, e107, hx107_0⟩ := Kd.at_int HR0.out a1 p107 q107
          cases e107
          replace p107 := eq_true p107
          replace q107 := eq_true q107
          go_enter Try.func22, Try.ntmps22
          go_wp2
          go_ret
          exact ⟨by first | rfl | (simp; done) | (simp [*]; done), by repeat (first | exact Drawn0.refl _ | apply Drawn0.step)⟩
        · rw [if_neg c6] at H
          exact absurd H (by simp)
      · rw [if_neg c5] at H
        exact absurd H (by simp)

/-- THE ONE PURE STATEMENT of parser_HasMore: yours. -/
def parser_HasMore.Pure : Prop := ∀ (l0 : List Int) (a1 : Int), l0.length ≤ maxLen → l0.length * 8 ≤ 140737488351232 → (∀ x ∈ l0, (Lit.int .i64 x).wf = true) → (Lit.int .i64 a1).wf = true → parser_HasMore.f l0 a1 = some true
theorem parser_HasMore.walk (P : parser_HasMore.Pure) (a0 : Option Addr) (len0 cap0 : Nat) (z0 : List Int) (a1 : Int) (w : World) (w0 : (a0 = none ∧ len0 = 0 ∧ cap0 = 0 ∧ z0 = []) ∨ ∃ x, a0 = some x ∧ len0 ≤ cap0 ∧ cap0 ≤ maxLen ∧ z0.length = cap0 ∧ (∀ i, i < z0.length → w.cell? (x.add i) = some (.int .i64 (z0.getD i 0))) ∧ ∀ n ∈ z0, (Lit.int .i64 n).wf = true) (y0 : len0 * 8 ≤ 140737488351232) (w1 : (Lit.int .i64 a1).wf = true) :
    Calls Try.prog 22 #[.slice a0 len0 cap0, .int .i64 a1] w fun e w' => e = .returned (.bool true) ∧ Below w.heap.size w w' := by
  obtain ⟨l0, rfl, hr0, hm0, hw0, hc0⟩ := ReadsInt.ofRowC w0
  have h := P l0 a1 hm0 y0 hw0 w1
  refine (parser_HasMore.calls _ _ l0 a1 true w (Kd.C_of_reads (d := (0 : Int)) (h1 := fun _ => rfl) hr0) hc0 h).mono ?_
  rintro e w' ⟨rfl, hd⟩
  exact ⟨rfl, hd.below⟩

end Go.Proofs.Ytiledebjfflmmaa.PT
