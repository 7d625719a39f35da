-- Written by wip/pp.py, a program of this session, out of the translation. Not trusted: Lean checks it.
import Derived.Test.YtnjbobboookfmaaPBx0
namespace Go.Proofs.Ytnjbobboookfmaa.PB
open Go.RowKit Go.Proofs.Ytnjbobboookfmaa.Or Go.Proofs.YtnjbobboookfmaaW.PrintWords Go.Proofs.YtnjbobboookfmaaW.PrintLast Go.Proofs.YtnjbobboookfmaaW.PrintMore
attribute [local go_sem] max2_int min2_int max_two min_two max_three min_three max_four min_four   -- for this text's walks alone
attribute [local go_sem] Go.Proofs.Ytnjbobboookfmaa.Ext.wrap64_mod256 Go.Proofs.Ytnjbobboookfmaa.Ext.wrap64_mod32 Go.Proofs.Ytnjbobboookfmaa.Ext.i64_mod256 Go.Proofs.Ytnjbobboookfmaa.Ext.i64_mod32 Go.Proofs.Ytnjbobboookfmaa.Ext.i64_u8 Go.Proofs.Ytnjbobboookfmaa.Ext.w64_u8 Go.Proofs.Ytnjbobboookfmaa.Ext.i64_u32 Go.Proofs.Ytnjbobboookfmaa.Ext.w64_u32 
set_option linter.unusedVariables false
set_option linter.unusedSimpArgs false

/-! ### spec_TableOf: function 8 -/
mutual
def spec_TableOf.l0 : Nat → List Int → List (S27) → Int → Int → Option (List Int)
  | 0, _, _, _, _ => none
  | k + 1, x3, x12, x13, x14 => if x14 < x13 then (if 0 ≤ x14 then (if x14 < (x12.length : Int) then (if ((rd_T27 x12 x14).f0) = 0 then (spec_TableOf.l1 k x3 (Go.bits .or .u8 ((((rd_T27 x12 x14).f5) * 16) % 256) ((rd_T27 x12 x14).f6)) x12 x13 x14 (x3.length : Int) 0) else (if ((rd_T27 x12 x14).f0) = 1 then (if 0 ≤ (Go.bits .or .i64 (wrap64 ((wrap64 ((rd_T27 x12 x14).f1)) * 256)) (wrap64 ((rd_T27 x12 x14).f2))) then (if (Go.bits .or .i64 (wrap64 ((wrap64 ((rd_T27 x12 x14).f1)) * 256)) (wrap64 ((rd_T27 x12 x14).f2))) < (x3.length : Int) then (spec_TableOf.l0 k (x3.set ((Go.bits .or .i64 (wrap64 ((wrap64 ((rd_T27 x12 x14).f1)) * 256)) (wrap64 ((rd_T27 x12 x14).f2))) : Int).toNat (Go.bits .or .u8 ((((rd_T27 x12 x14).f5) * 16) % 256) ((rd_T27 x12 x14).f6))) x12 x13 (wrap64 (x14 + 1))) else (none)) else (none)) else (if ((rd_T27 x12 x14).f0) = 2 then (spec_TableOf.l2 k x3 (Go.bits .or .u8 ((((rd_T27 x12 x14).f5) * 16) % 256) ((rd_T27 x12 x14).f6)) x12 x13 x14 ((rd_T27 x12 x14).f4) (((rd_T27 x12 x14).f4).length : Int) 0 ((rd_T27 x12 x14).f0) ((rd_T27 x12 x14).f1) ((rd_T27 x12 x14).f2) ((rd_T27 x12 x14).f3) ((rd_T27 x12 x14).f4) ((rd_T27 x12 x14).f5) ((rd_T27 x12 x14).f6)) else (if ((rd_T27 x12 x14).f0) = 3 then (spec_TableOf.l3 k x3 (Go.bits .or .u8 ((((rd_T27 x12 x14).f5) * 16) % 256) ((rd_T27 x12 x14).f6)) (wrap64 ((rd_T27 x12 x14).f2)) x12 x13 x14 ((rd_T27 x12 x14).f0) ((rd_T27 x12 x14).f1) ((rd_T27 x12 x14).f2) ((rd_T27 x12 x14).f3) ((rd_T27 x12 x14).f4) ((rd_T27 x12 x14).f5) ((rd_T27 x12 x14).f6)) else (spec_TableOf.l0 k x3 x12 x13 (wrap64 (x14 + 1))))))) else (none)) else (none)) else (some x3)
def spec_TableOf.l1 : Nat → List Int → Int → List (S27) → Int → Int → Int → Int → Option (List Int)
  | 0, _, _, _, _, _, _, _ => none
  | k + 1, x3, x6, x12, x13, x14, x29, x30 => if x30 < x29 then (if 0 ≤ x30 then (if x30 < (x3.length : Int) then (spec_TableOf.l1 k (x3.set (x30 : Int).toNat x6) x6 x12 x13 x14 x29 (wrap64 (x30 + 1))) else (none)) else (none)) else (spec_TableOf.l0 k x3 x12 x13 (wrap64 (x14 + 1)))
def spec_TableOf.l2 : Nat → List Int → Int → List (S27) → Int → Int → List Int → Int → Int → Int → Int → Int → Int → List Int → Int → Int → Option (List Int)
  | 0, _, _, _, _, _, _, _, _, _, _, _, _, _, _, _ => none
  | k + 1, x3, x6, x12, x13, x14, x54, x55, x56, x144000, x144001, x144002, x144003, x144004, x144005, x144006 => if x56 < x55 then (if 0 ≤ x56 then (if x56 < (x54.length : Int) then (if 0 ≤ (Go.bits .or .i64 (wrap64 ((wrap64 (x144001)) * 256)) (wrap64 (rd x54 x56))) then (if (Go.bits .or .i64 (wrap64 ((wrap64 (x144001)) * 256)) (wrap64 (rd x54 x56))) < (x3.length : Int) then (spec_TableOf.l2 k (x3.set ((Go.bits .or .i64 (wrap64 ((wrap64 (x144001)) * 256)) (wrap64 (rd x54 x56))) : Int).toNat x6) x6 x12 x13 x14 x54 x55 (wrap64 (x56 + 1)) x144000 x144001 x144002 x144003 x144004 x144005 x144006) else (none)) else (none)) else (none)) else (none)) else (spec_TableOf.l0 k x3 x12 x13 (wrap64 (x14 + 1)))
def spec_TableOf.l3 : Nat → List Int → Int → Int → List (S27) → Int → Int → Int → Int → Int → Int → List Int → Int → Int → Option (List Int)
  | 0, _, _, _, _, _, _, _, _, _, _, _, _, _ => none
  | k + 1, x3, x6, x10, x12, x13, x14, x144000, x144001, x144002, x144003, x144004, x144005, x144006 => if x10 ≤ (wrap64 (x144003)) then (if 0 ≤ (Go.bits .or .i64 (wrap64 ((wrap64 (x144001)) * 256)) x10) then (if (Go.bits .or .i64 (wrap64 ((wrap64 (x144001)) * 256)) x10) < (x3.length : Int) then (spec_TableOf.l3 k (x3.set ((Go.bits .or .i64 (wrap64 ((wrap64 (x144001)) * 256)) x10) : Int).toNat x6) x6 (wrap64 (x10 + 1)) x12 x13 x14 x144000 x144001 x144002 x144003 x144004 x144005 x144006) else (none)) else (none)) else (spec_TableOf.l0 k x3 x12 x13 (wrap64 (x14 + 1)))
end
def spec_TableOf.f (k : Nat) (l0 : List (S27)) : Option (List Int) := if 4096 ≤ 281474976710656 then (spec_TableOf.l0 k (List.replicate 4096 0) l0 (l0.length : Int) 0) else (none)
theorem spec_TableOf.mono_l : ∀ k, (∀ y0 y1 y2 y3, LeO (spec_TableOf.l0 k y0 y1 y2 y3) (spec_TableOf.l0 (k + 1) y0 y1 y2 y3)) ∧ (∀ y0 y1 y2 y3 y4 y5 y6, LeO (spec_TableOf.l1 k y0 y1 y2 y3 y4 y5 y6) (spec_TableOf.l1 (k + 1) y0 y1 y2 y3 y4 y5 y6)) ∧ (∀ y0 y1 y2 y3 y4 y5 y6 y7 y8 y9 y10 y11 y12 y13 y14, LeO (spec_TableOf.l2 k y0 y1 y2 y3 y4 y5 y6 y7 y8 y9 y10 y11 y12 y13 y14) (spec_TableOf.l2 (k + 1) y0 y1 y2 y3 y4 y5 y6 y7 y8 y9 y10 y11 y12 y13 y14)) ∧ (∀ y0 y1 y2 y3 y4 y5 y6 y7 y8 y9 y10 y11 y12, LeO (spec_TableOf.l3 k y0 y1 y2 y3 y4 y5 y6 y7 y8 y9 y10 y11 y12) (spec_TableOf.l3 (k + 1) y0 y1 y2 y3 y4 y5 y6 y7 y8 y9 y10 y11 y12))
  | 0 => ⟨fun _ _ _ _ r h => by simp [spec_TableOf.l0] at h, fun _ _ _ _ _ _ _ r h => by simp [spec_TableOf.l1] at h, fun _ _ _ _ _ _ _ _ _ _ _ _ _ _ _ r h => by simp [spec_TableOf.l2] at h, fun _ _ _ _ _ _ _ _ _ _ _ _ _ r h => by simp [spec_TableOf.l3] at h⟩
  | k + 1 => by
    obtain ⟨ih0, ih1, ih2, ih3⟩ := spec_TableOf.mono_l k
    refine ⟨?_, ?_, ?_, ?_⟩
    · intro y0 y1 y2 y3
      unfold spec_TableOf.l0
      repeat' first
      | (with_reducible exact ih0 _ _ _ _)
      | (with_reducible exact ih1 _ _ _ _ _ _ _)
      | (with_reducible exact ih2 _ _ _ _ _ _ _ _ _ _ _ _ _ _ _)
      | (with_reducible exact ih3 _ _ _ _ _ _ _ _ _ _ _ _ _)
      | (with_reducible exact LeO.refl _)
      | (with_reducible exact LeO.none _)
      | (with_reducible refine LeO.ite ?_ ?_)
      | (with_reducible refine LeO.bind ?_ (fun _ => ?_))
      | exact ih0 _ _ _ _
      | exact ih1 _ _ _ _ _ _ _
      | exact ih2 _ _ _ _ _ _ _ _ _ _ _ _ _ _ _
      | exact ih3 _ _ _ _ _ _ _ _ _ _ _ _ _
      | exact LeO.none _
      | refine LeO.ite ?_ ?_
      | refine LeO.bind ?_ (fun _ => ?_)
    · intro y0 y1 y2 y3 y4 y5 y6
      unfold spec_TableOf.l1
      repeat' first
      | (with_reducible exact ih0 _ _ _ _)
      | (with_reducible exact ih1 _ _ _ _ _ _ _)
      | (with_reducible exact ih2 _ _ _ _ _ _ _ _ _ _ _ _ _ _ _)
      | (with_reducible exact ih3 _ _ _ _ _ _ _ _ _ _ _ _ _)
      | (with_reducible exact LeO.refl _)
      | (with_reducible exact LeO.none _)
      | (with_reducible refine LeO.ite ?_ ?_)
      | (with_reducible refine LeO.bind ?_ (fun _ => ?_))
      | exact ih0 _ _ _ _
      | exact ih1 _ _ _ _ _ _ _
      | exact ih2 _ _ _ _ _ _ _ _ _ _ _ _ _ _ _
      | exact ih3 _ _ _ _ _ _ _ _ _ _ _ _ _
      | exact LeO.none _
      | refine LeO.ite ?_ ?_
      | refine LeO.bind ?_ (fun _ => ?_)
    · intro y0 y1 y2 y3 y4 y5 y6 y7 y8 y9 y10 y11 y12 y13 y14
      unfold spec_TableOf.l2
      repeat' first
      | (with_reducible exact ih0 _ _ _ _)
      | (with_reducible exact ih1 _ _ _ _ _ _ _)
      | (with_reducible exact ih2 _ _ _ _ _ _ _ _ _ _ _ _ _ _ _)
      | (with_reducible exact ih3 _ _ _ _ _ _ _ _ _ _ _ _ _)
      | (with_reducible exact LeO.refl _)
      | (with_reducible exact LeO.none _)
      | (with_reducible refine LeO.ite ?_ ?_)
      | (with_reducible refine LeO.bind ?_ (fun _ => ?_))
      | exact ih0 _ _ _ _
      | exact ih1 _ _ _ _ _ _ _
      | exact ih2 _ _ _ _ _ _ _ _ _ _ _ _ _ _ _
      | exact ih3 _ _ _ _ _ _ _ _ _ _ _ _ _
      | exact LeO.none _
      | refine LeO.ite ?_ ?_
      | refine LeO.bind ?_ (fun _ => ?_)
    · intro y0 y1 y2 y3 y4 y5 y6 y7 y8 y9 y10 y11 y12
      unfold spec_TableOf.l3
      repeat' first
      | (with_reducible exact ih0 _ _ _ _)
      | (with_reducible exact ih1 _ _ _ _ _ _ _)
      | (with_reducible exact ih2 _ _ _ _ _ _ _ _ _ _ _ _ _ _ _)
      | (with_reducible exact ih3 _ _ _ _ _ _ _ _ _ _ _ _ _)
      | (with_reducible exact LeO.refl _)
      | (with_reducible exact LeO.none _)
      | (with_reducible refine LeO.ite ?_ ?_)
      | (with_reducible refine LeO.bind ?_ (fun _ => ?_))
      | exact ih0 _ _ _ _
      | exact ih1 _ _ _ _ _ _ _
      | exact ih2 _ _ _ _ _ _ _ _ _ _ _ _ _ _ _
      | exact ih3 _ _ _ _ _ _ _ _ _ _ _ _ _
      | exact LeO.none _
      | refine LeO.ite ?_ ?_
      | refine LeO.bind ?_ (fun _ => ?_)
theorem spec_TableOf.mono : ∀ a0 k, LeO (spec_TableOf.f k a0) (spec_TableOf.f (k + 1) a0) := by
  intro a0 k
  obtain ⟨ih0, ih1, ih2, ih3⟩ := spec_TableOf.mono_l k
  unfold spec_TableOf.f
  repeat' first
      | (with_reducible exact ih0 _ _ _ _)
      | (with_reducible exact ih1 _ _ _ _ _ _ _)
      | (with_reducible exact ih2 _ _ _ _ _ _ _ _ _ _ _ _ _ _ _)
      | (with_reducible exact ih3 _ _ _ _ _ _ _ _ _ _ _ _ _)
      | (with_reducible exact LeO.refl _)
      | (with_reducible exact LeO.none _)
      | (with_reducible refine LeO.ite ?_ ?_)
      | (with_reducible refine LeO.bind ?_ (fun _ => ?_))
      | exact ih0 _ _ _ _
      | exact ih1 _ _ _ _ _ _ _
      | exact ih2 _ _ _ _ _ _ _ _ _ _ _ _ _ _ _
      | exact ih3 _ _ _ _ _ _ _ _ _ _ _ _ _
      | exact LeO.none _
      | refine LeO.ite ?_ ?_
      | refine LeO.bind ?_ (fun _ => ?_)
set_option maxHeartbeats 8000000 in
set_option maxRecDepth 100000 in
theorem spec_TableOf.calls (k : Nat) (A0 : Option Addr) (c0 : Nat) (l0 : List (S27)) (r : List Int) (w : World) (hr0 : Kd.C k27 w A0 l0.length l0) (hc0 : l0.length ≤ c0) (h : spec_TableOf.f k l0 = some r) :
    Calls Try.prog 8 #[.slice A0 l0.length c0] w fun e w' => ∃ v0_ : Value, e = .returned (v0_) ∧ Kd.R (Kd.int .u8) 5 w' w.heap.size (fun _ => True) v0_ r ∧ Below w.heap.size w w' := by
  have hu27 := Try.underlying27
  have HR0 := Aside0.mk hr0
  have HC0 := Aside0.mk hc0
  clear hr0 hc0
  have HB := Aside0.mk (Below.refl w.heap.size w)
  have H : (if 4096 ≤ 281474976710656 then (spec_TableOf.l0 k (List.replicate 4096 0) l0 (l0.length : Int) 0) else (none)) = some r := h
  clear h
  by_cases c2 : 4096 ≤ 281474976710656
  · rw [if_pos c2] at H
    have c2b0 := eq_true c2
    have c2b1 : decide (4096 ≤ 281474976710656) = true := decide_eq_true c2
    clear c2
    obtain ⟨y139, hy139⟩ : ∃ y_ : List Int, y_ = (List.replicate 4096 0) := ⟨_, rfl⟩
    replace H : (spec_TableOf.l0 k y139 l0 (l0.length : Int) 0) = some r := by first | (rw [hy139]; with_reducible exact H) | (have H2_ := (Option.bind_some _ _).symm.trans H; rw [hy139]; with_reducible exact H2_) | (have H2_ := (Option.bind_some _ _).symm.trans H; with_reducible exact H2_) | with_reducible exact H | (rw [hy139]; exact H) | exact H
    have Ny139 := Aside0.mk hy139
    clear hy139
    have H' := Aside0.mk H
    clear H
    go_enter Try.func8, Try.ntmps8
    go_wp2_with (first | ((with_reducible refine gate_dst (N := 11) rfl ?_); refine Kd.R_make (Kd.int .u8) _ 5 rfl (N := 11) rfl 23 _ _ rfl 4096 rfl rfl Try.underlying23 (.int .u8 0) 1 info5 rfl (by decide) (by omega) 0 (ok := fun _ => True) (okp := fun _ => True) rfl (fun _ hk => hk) trivial (by omega) (by omega) (Below.refl _ _) (Nat.le_refl _) ?_; intro v140 w3 ho4 hb hg_ hnew_; clear hg_ hnew_; (first | rw [← Ny139.out] at ho4 | (simp only [Int.reduceToNat] at ho4; rw [← Ny139.out] at ho4)); have n0_ := Aside0.mk (Kd.R_lower ho4 (below_size (by repeat (first | (with_reducible first | exact HB.out | apply below_alloc | apply Go.Proofs.Ytnjbobboookfmaa.Ext.below_bytes | apply pw_below_drewN | apply below_drew1) | exact HB.out)))); have n1_ := Aside0.mk (below_step (by repeat (first | (with_reducible first | exact HB.out | apply below_alloc | apply Go.Proofs.Ytnjbobboookfmaa.Ext.below_bytes | apply pw_below_drewN | apply below_drew1) | exact HB.out)) hb); clear HB; have HO141 := n0_; have HB := n1_; clear n0_ n1_; clear hb ho4))
    go_loopg [14] k (fun kq v14 w' => ∃ (x3_1 : List Int) (x14_1 : Int), v14 = .int .i64 x14_1 ∧ Aside0 (spec_TableOf.l0 kq x3_1 l0 (l0.length : Int) x14_1 = some r) ∧ Aside0 (kq ≤ k) ∧ Aside0 (Kd.R (Kd.int .u8) 5 w' w.heap.size (fun _ => True) v140 x3_1) ∧ Aside0 (Below w.heap.size w w'))
    case atStart => exact ⟨(y139), (0), (by first | rfl | (simp; done) | (simp [*]; done)), H', ⟨Nat.le_refl _⟩, ⟨by (with_reducible repeat (first | apply Kd.R_alloc | apply Go.Proofs.Ytnjbobboookfmaa.Ext.R_bytes | apply Kd.R_drewN | apply Kd.R_drew)); exact HO141.out⟩, ⟨by repeat (first | (with_reducible first | exact HB.out | apply below_alloc | apply Go.Proofs.Ytnjbobboookfmaa.Ext.below_bytes | apply pw_below_drewN | apply below_drew1) | exact HB.out)⟩⟩
    case round =>
      clear H'
      try clear c2
      try clear c2b0
      try clear c2b1
      try clear p2
      obtain ⟨x3_1, x14_1, rfl, HA, HK1, HO_3, HB⟩ := hrel
      cases gk with
      | zero => exact absurd HA.out (by simp [spec_TableOf.l0])
      | succ k1 =>
        have H := HA.out
        clear HA
        simp only [spec_TableOf.l0] at H
        by_cases c5 : x14_1 < (l0.length : Int)
        · rw [if_pos c5] at H
          have c5b0 : decide (x14_1 < (l0.length : Int)) = true := decide_eq_true c5
          (try (have c5b90 := c5b0; simp only [hl142_4] at c5b90))
          (try (have c5b91 := c5b0; simp only [hl3_2] at c5b91))
          clear c5
          by_cases c6 : 0 ≤ x14_1
          · rw [if_pos c6] at H
            have c6b0 : decide (0 ≤ x14_1) = true := decide_eq_true c6
            clear c6
            by_cases c7 : x14_1 < (l0.length : Int)
            · rw [if_pos c7] at H
              have c7b0 : decide (x14_1 < (l0.length : Int)) = true := decide_eq_true c7
              (try (have c7b90 := c7b0; simp only [hl142_4] at c7b90))
              (try (have c7b91 := c7b0; simp only [hl3_2] at c7b91))
              clear c7
              by_cases c8 : ((rd_T27 l0 x14_1).f0) = 0
              · rw [if_pos c8] at H
                have c8b0 : (((rd_T27 l0 x14_1).f0) == 0) = true := beq_iff_eq.mpr c8
                have c8b1 : (((rd_T27 l0 x14_1).f0) != 0) = false := bne_eq_false_iff_eq.mpr c8
                clear c8
                have H' := Aside0.mk H
                clear H
                have p142 : 0 ≤ (x14_1 : Int) := of_decide_eq_true (by first | (with_reducible assumption) | assumption)
                have q142 : x14_1 < (l0.length : Int) := of_decide_eq_true (by first | (with_reducible assumption) | assumption)
                obtain ⟨ad142, A142_4, c142_4, e142, hx142_0, hx142_1, hx142_2, hx142_3, hx142_4, hx142_5, hx142_6, hl142_4, hi142_4⟩ := at_T27 HR0.out x14_1 p142 q142
                cases e142
                replace hx142_0 := (HB.out.cell (World.block_lt_of_cell? w _ hx142_0)).trans hx142_0
                replace hx142_1 := (HB.out.cell (World.block_lt_of_cell? w _ hx142_1)).trans hx142_1
                replace hx142_2 := (HB.out.cell (World.block_lt_of_cell? w _ hx142_2)).trans hx142_2
                replace hx142_3 := (HB.out.cell (World.block_lt_of_cell? w _ hx142_3)).trans hx142_3
                replace hx142_4 := (HB.out.cell (World.block_lt_of_cell? w _ hx142_4)).trans hx142_4
                replace hx142_5 := (HB.out.cell (World.block_lt_of_cell? w _ hx142_5)).trans hx142_5
                replace hx142_6 := (HB.out.cell (World.block_lt_of_cell? w _ hx142_6)).trans hx142_6
                have HR142_4 := Aside0.mk hi142_4
                have HC142_4 := Aside0.mk hl142_4
                clear hi142_4 hl142_4
                replace p142 := eq_true p142
                replace q142 := eq_true q142
                go_wp2_with (first | ((with_reducible refine gate_dst (N := 5) rfl ?_); refine box_event ?hg (N := 5) ?hd (cs := #[.int .i64 0, .int .u8 0, .int .u8 0, .int .u8 0, .slice none 0 0, .int .u8 0, .int .u8 0]) (t := 27) ?hr ?_; (case hd => rfl); (case hg => rfl); (case hr => first | (go_simp; done) | (go_simp; rfl)); intro gb143 hg w9 hbox hb; have n0_ := Aside0.mk (Kd.R_below (by (with_reducible repeat (first | apply Kd.R_alloc | apply Go.Proofs.Ytnjbobboookfmaa.Ext.R_bytes | apply Kd.R_drewN | apply Kd.R_drew)); exact HO_3.out) hb); have n1_ := Aside0.mk (below_step (by repeat (first | (with_reducible first | exact HB.out | apply below_alloc | apply Go.Proofs.Ytnjbobboookfmaa.Ext.below_bytes | apply pw_below_drewN | apply below_drew1) | exact HB.out)) hb); have n2_ := Aside0.mk (hbox); have n3_ := Aside0.mk ((by rw [hg]; exact (below_size (by repeat (first | (with_reducible first | exact HB.out | apply below_alloc | apply Go.Proofs.Ytnjbobboookfmaa.Ext.below_bytes | apply pw_below_drewN | apply below_drew1) | exact HB.out))) : w.heap.size ≤ gb143)); have n4_ := Aside0.mk ((by rw [hg]; exact (below_size (by repeat (first | (with_reducible first | exact HB.out | apply below_alloc | apply Go.Proofs.Ytnjbobboookfmaa.Ext.below_bytes | apply pw_below_drewN | apply below_drew1) | exact HB.out))) : w.heap.size ≤ gb143)); clear HO_3; clear HB; have HO_3 := n0_; have HB := n1_; have BK143 := n2_; have GW143 := n3_; have GE143 := n4_; clear n0_ n1_ n2_ n3_ n4_; clear hb hbox hg; have hcz10_0 : w9.cell? ⟨gb143, 0, none⟩ = some (.int .i64 0) := (blk_cell BK143.out 0).trans rfl; have hcz10_1 : w9.cell? ⟨gb143, 1, none⟩ = some (.int .u8 0) := (blk_cell BK143.out 1).trans rfl; have hcz10_2 : w9.cell? ⟨gb143, 2, none⟩ = some (.int .u8 0) := (blk_cell BK143.out 2).trans rfl; have hcz10_3 : w9.cell? ⟨gb143, 3, none⟩ = some (.int .u8 0) := (blk_cell BK143.out 3).trans rfl; have hcz10_4 : w9.cell? ⟨gb143, 4, none⟩ = some (.slice none 0 0) := (blk_cell BK143.out 4).trans rfl; have hcz10_5 : w9.cell? ⟨gb143, 5, none⟩ = some (.int .u8 0) := (blk_cell BK143.out 5).trans rfl; have hcz10_6 : w9.cell? ⟨gb143, 6, none⟩ = some (.int .u8 0) := (blk_cell BK143.out 6).trans rfl; have hfz10_0 := blk_frozen BK143.out 0; have hfz10_1 := blk_frozen BK143.out 1; have hfz10_2 := blk_frozen BK143.out 2; have hfz10_3 := blk_frozen BK143.out 3; have hfz10_4 := blk_frozen BK143.out 4; have hfz10_5 := blk_frozen BK143.out 5; have hfz10_6 := blk_frozen BK143.out 6; obtain ⟨Ao11, co11, eo11⟩ := Kd.R_slice HO_3.out; subst eo11))
                go_loopg [30] k1 (fun kq v30 w' => ∃ (x3_2 : List Int) (x30_2 : Int), v30 = .int .i64 x30_2 ∧ Aside0 (spec_TableOf.l1 kq x3_2 (Go.bits .or .u8 ((((rd_T27 l0 x14_1).f5) * 16) % 256) ((rd_T27 l0 x14_1).f6)) l0 (l0.length : Int) x14_1 (x3_1.length : Int) x30_2 = some r) ∧ Aside0 (kq ≤ k1) ∧ Aside0 (Kd.R (Kd.int .u8) 5 w' w.heap.size (fun _ => True) (.slice Ao11 x3_1.length co11) x3_2) ∧ Aside0 (w'.heap[gb143]? = some (.cells #[.int .i64 ((rd_T27 l0 x14_1).f0), .int .u8 ((rd_T27 l0 x14_1).f1), .int .u8 ((rd_T27 l0 x14_1).f2), .int .u8 ((rd_T27 l0 x14_1).f3), (.slice A142_4 ((rd_T27 l0 x14_1).f4).length c142_4), .int .u8 ((rd_T27 l0 x14_1).f5), .int .u8 ((rd_T27 l0 x14_1).f6)] 27 (0, 0))) ∧ Aside0 (Below w.heap.size w w'))
                case atStart => exact ⟨(x3_1), (0), (by first | rfl | (simp; done) | (simp [*]; done)), H', ⟨Nat.le_refl _⟩, ⟨by (with_reducible repeat (first | apply Kd.R_alloc | apply Go.Proofs.Ytnjbobboookfmaa.Ext.R_bytes | apply Kd.R_drewN | apply Kd.R_drew)); exact Kd.R_mono (Kd.R_far (p := ⟨gb143, 6, none⟩) (Kd.R_far (p := ⟨gb143, 5, none⟩) (Kd.R_far (p := ⟨gb143, 4, none⟩) (Kd.R_far (p := ⟨gb143, 3, none⟩) (Kd.R_far (p := ⟨gb143, 2, none⟩) (Kd.R_far (p := ⟨gb143, 1, none⟩) (Kd.R_far (p := ⟨gb143, 0, none⟩) (Kd.R_types HO_3.out BK143.out (by decide)) (fun _ hk => hk.2) (.int .i64 ((rd_T27 l0 x14_1).f0))) (fun _ hk => hk.2) (.int .u8 ((rd_T27 l0 x14_1).f1))) (fun _ hk => hk.2) (.int .u8 ((rd_T27 l0 x14_1).f2))) (fun _ hk => hk.2) (.int .u8 ((rd_T27 l0 x14_1).f3))) (fun _ hk => hk.2) (.slice A142_4 ((rd_T27 l0 x14_1).f4).length c142_4)) (fun _ hk => hk.2) (.int .u8 ((rd_T27 l0 x14_1).f5))) (fun _ hk => hk.2) (.int .u8 ((rd_T27 l0 x14_1).f6))) (fun _ hk => trivial)⟩, ⟨by (with_reducible repeat (first | refine blk_drewN ?_ _ | refine blk_drew ?_ | refine blk_alloc ?_ _)); refine blk_put (cs := #[.int .i64 ((rd_T27 l0 x14_1).f0), .int .u8 ((rd_T27 l0 x14_1).f1), .int .u8 ((rd_T27 l0 x14_1).f2), .int .u8 ((rd_T27 l0 x14_1).f3), .slice A142_4 ((rd_T27 l0 x14_1).f4).length c142_4, .int .u8 ((rd_T27 l0 x14_1).f5), .int .u8 0]) ?_ 6 _ rfl; (with_reducible repeat (first | refine blk_drewN ?_ _ | refine blk_drew ?_ | refine blk_alloc ?_ _)); refine blk_put (cs := #[.int .i64 ((rd_T27 l0 x14_1).f0), .int .u8 ((rd_T27 l0 x14_1).f1), .int .u8 ((rd_T27 l0 x14_1).f2), .int .u8 ((rd_T27 l0 x14_1).f3), .slice A142_4 ((rd_T27 l0 x14_1).f4).length c142_4, .int .u8 0, .int .u8 0]) ?_ 5 _ rfl; (with_reducible repeat (first | refine blk_drewN ?_ _ | refine blk_drew ?_ | refine blk_alloc ?_ _)); refine blk_put (cs := #[.int .i64 ((rd_T27 l0 x14_1).f0), .int .u8 ((rd_T27 l0 x14_1).f1), .int .u8 ((rd_T27 l0 x14_1).f2), .int .u8 ((rd_T27 l0 x14_1).f3), .slice none 0 0, .int .u8 0, .int .u8 0]) ?_ 4 _ rfl; (with_reducible repeat (first | refine blk_drewN ?_ _ | refine blk_drew ?_ | refine blk_alloc ?_ _)); refine blk_put (cs := #[.int .i64 ((rd_T27 l0 x14_1).f0), .int .u8 ((rd_T27 l0 x14_1).f1), .int .u8 ((rd_T27 l0 x14_1).f2), .int .u8 0, .slice none 0 0, .int .u8 0, .int .u8 0]) ?_ 3 _ rfl; (with_reducible repeat (first | refine blk_drewN ?_ _ | refine blk_drew ?_ | refine blk_alloc ?_ _)); refine blk_put (cs := #[.int .i64 ((rd_T27 l0 x14_1).f0), .int .u8 ((rd_T27 l0 x14_1).f1), .int .u8 0, .int .u8 0, .slice none 0 0, .int .u8 0, .int .u8 0]) ?_ 2 _ rfl; (with_reducible repeat (first | refine blk_drewN ?_ _ | refine blk_drew ?_ | refine blk_alloc ?_ _)); refine blk_put (cs := #[.int .i64 ((rd_T27 l0 x14_1).f0), .int .u8 0, .int .u8 0, .int .u8 0, .slice none 0 0, .int .u8 0, .int .u8 0]) ?_ 1 _ rfl; (with_reducible repeat (first | refine blk_drewN ?_ _ | refine blk_drew ?_ | refine blk_alloc ?_ _)); refine blk_put (cs := #[.int .i64 0, .int .u8 0, .int .u8 0, .int .u8 0, .slice none 0 0, .int .u8 0, .int .u8 0]) ?_ 0 _ rfl; (with_reducible repeat (first | refine blk_drewN ?_ _ | refine blk_drew ?_ | refine blk_alloc ?_ _)); exact BK143.out⟩, ⟨by repeat (first | (with_reducible first | exact HB.out | apply below_alloc | apply Go.Proofs.Ytnjbobboookfmaa.Ext.below_bytes | apply pw_below_drewN | apply below_drew1 | refine below_set ?_ GE143.out) | exact HB.out)⟩⟩
                case round =>
                  clear H'
                  try clear c1
                  try clear p1
                  try clear q1
                  try clear hx1
                  try clear c2
                  try clear c2b0
                  try clear c2b1
                  try clear p2
                  try clear c5
                  try clear c5b0
                  try clear c6
                  try clear c6b0
                  try clear c7
                  try clear c7b0
                  try clear c8
                  try clear c8b0
                  try clear c8b1
                  try clear hcz10_0
                  try clear hcz10_1
                  try clear hcz10_2
                  try clear hcz10_3
                  try clear hcz10_4
                  try clear hcz10_5
                  try clear hcz10_6
                  try clear hfz10_0
                  try clear hfz10_1
                  try clear hfz10_2
                  try clear hfz10_3
                  try clear hfz10_4
                  try clear hfz10_5
                  try clear hfz10_6
                  try clear hx142_0
                  try clear hx142_1
                  try clear hx142_2
                  try clear hx142_3
                  try clear hx142_4
                  try clear hx142_5
                  try clear hx142_6
                  try clear p142
                  try clear p2
                  try clear q142
                  obtain ⟨x3_2, x30_2, rfl, HA, HK2, HO_3, BK143, HB⟩ := hrel
                  have hl3_2 := (Kd.R_reads' HO_3.out).1
                  rw [hl3_2] at HO_3
                  (try simp only [hl3_2])
                  (try simp only [hl3_2] at BK143)
                  cases gk with
                  | zero => exact absurd HA.out (by simp [spec_TableOf.l1])
                  | succ k2 =>
                    have H := HA.out
                    clear HA
                    simp only [spec_TableOf.l1] at H
                    by_cases c12 : x30_2 < (x3_1.length : Int)
                    · rw [if_pos c12] at H
                      have c12b0 : decide (x30_2 < (x3_1.length : Int)) = true := decide_eq_true c12
                      (try (have c12b90 := c12b0; simp only [hl142_4] at c12b90))
                      (try (have c12b91 := c12b0; simp only [hl3_2] at c12b91))
                      clear c12
                      by_cases c13 : 0 ≤ x30_2
                      · rw [if_pos c13] at H
                        have c13b0 : decide (0 ≤ x30_2) = true := decide_eq_true c13
                        clear c13
                        by_cases c14 : x30_2 < (x3_2.length : Int)
                        · rw [if_pos c14] at H
                          have c14b0 : decide (x30_2 < (x3_2.length : Int)) = true := decide_eq_true c14
                          (try (have c14b90 := c14b0; simp only [hl142_4] at c14b90))
                          (try (have c14b91 := c14b0; simp only [hl3_2] at c14b91))
                          clear c14
                          obtain ⟨y144, hy144⟩ : ∃ y_ : List Int, y_ = (x3_2.set (x30_2 : Int).toNat (Go.bits .or .u8 ((((rd_T27 l0 x14_1).f5) * 16) % 256) ((rd_T27 l0 x14_1).f6))) := ⟨_, rfl⟩
                          replace H : (spec_TableOf.l1 k2 y144 (Go.bits .or .u8 ((((rd_T27 l0 x14_1).f5) * 16) % 256) ((rd_T27 l0 x14_1).f6)) l0 (l0.length : Int) x14_1 (x3_1.length : Int) (wrap64 (x30_2 + 1))) = some r := by first | (rw [hy144]; with_reducible exact H) | (have H2_ := (Option.bind_some _ _).symm.trans H; rw [hy144]; with_reducible exact H2_) | (have H2_ := (Option.bind_some _ _).symm.trans H; with_reducible exact H2_) | with_reducible exact H | (rw [hy144]; exact H) | exact H
                          have Ny144 := Aside0.mk hy144
                          clear hy144
                          have H' := Aside0.mk H
                          clear H
                          have p15 : 0 ≤ (x30_2 : Int) := of_decide_eq_true (by first | (with_reducible assumption) | assumption)
                          have q15 : (x30_2 : Int) < ((x3_2.length : Int) : Int) := of_decide_eq_true (by first | (with_reducible assumption) | assumption)
                          obtain ⟨go15, co15, eo15, gb15, gl15, cl15, HG15⟩ := Kd.R_form HO_3.out (by omega)
                          (first | cases eo15 | (injection eo15 with ea_ en_ ec_; (first | subst ea_ | (injection ea_ with ea_; subst ea_)); subst ec_; clear en_))
                          have GB15 := Aside0.mk gb15
                          have GG15 := Aside0.mk HG15
                          clear gb15 gl15 HG15
                          obtain ⟨hx15_0, hf15_0⟩ := Kd.R_celln 0 HO_3.out (x30_2 : Int) p15 q15
                          replace p15 := eq_true p15
                          replace q15 := eq_true q15
                          have HP16 := Kd.R_putg HO_3.out (x30_2 : Int) (Go.bits .or .u8 ((((rd_T27 l0 x14_1).f5) * 16) % 256) ((rd_T27 l0 x14_1).f6))
                          go_wp2_with (first | ((with_reducible refine gate_store (t := 5) (p := 36) rfl ?_); refine store_event (t := 5) (p := 36) (v := ?vo_w17) (w1 := (wr.setCell ⟨go15, (x30_2 : Int).toNat, none⟩ (.int .u8 (Go.bits .or .u8 ((((rd_T27 l0 x14_1).f5) * 16) % 256) ((rd_T27 l0 x14_1).f6))))) ?hg ?ho ?hn ?hr ?_; (case ho => rfl); (case hg => rfl); (case hn => rfl); (case hr => first | (go_simp; done) | (go_simp; rfl)); intro w17 hw; have hg : wr.grownBy w17 (some go15) := (by rw [hw]; exact HP16.2); have hp_ : Kd.R (Kd.int .u8) 5 w17 w.heap.size (fun _ => True) (.slice (some ⟨go15, 0, none⟩) x3_2.length co11) y144 := (by rw [hw, Ny144.out]; exact HP16.1); clear HP16; have n0_ := Aside0.mk (hp_); have n1_ := Aside0.mk (blk_grown (g := gb143) (o := .cells #[.int .i64 ((rd_T27 l0 x14_1).f0), .int .u8 ((rd_T27 l0 x14_1).f1), .int .u8 ((rd_T27 l0 x14_1).f2), .int .u8 ((rd_T27 l0 x14_1).f3), .slice A142_4 ((rd_T27 l0 x14_1).f4).length c142_4, .int .u8 ((rd_T27 l0 x14_1).f5), .int .u8 ((rd_T27 l0 x14_1).f6)] 27 (0, 0)) (by (with_reducible repeat (first | refine blk_drewN ?_ _ | refine blk_drew ?_ | refine blk_alloc ?_ _)); exact BK143.out) hg (Kd.R_ne HO_3.out BK143.out (by decide))); have n2_ := Aside0.mk ((by rw [hw]; exact below_set (HB.out) GB15.out : Below w.heap.size w w17)); clear HO_3; clear BK143; clear HB; have HO_3 := n0_; have BK143 := n1_; have HB := n2_; clear n0_ n1_ n2_; clear hg hw hp_))
                          (try simp only [← hl3_2])
                          go_roundg k2
                          case measure => have := HK1.out; have := HK2.out; omega
                          case rel => exact ⟨(y144), (wrap64 (x30_2 + 1)), (by first | rfl | (simp; done) | (simp [*]; done)), H', ⟨by have := HK1.out; have := HK2.out; omega⟩, ⟨by (try simp only [hl3_2]); (with_reducible repeat (first | apply Kd.R_alloc | apply Go.Proofs.Ytnjbobboookfmaa.Ext.R_bytes | apply Kd.R_drewN | apply Kd.R_drew)); exact HO_3.out⟩, ⟨by (try simp only [hl3_2]); (with_reducible repeat (first | refine blk_drewN ?_ _ | refine blk_drew ?_ | refine blk_alloc ?_ _)); exact BK143.out⟩, ⟨by repeat (first | (with_reducible first | exact HB.out | apply below_alloc | apply Go.Proofs.Ytnjbobboookfmaa.Ext.below_bytes | apply pw_below_drewN | apply below_drew1 | refine below_set ?_ GE143.out) | exact HB.out)⟩⟩
                        · rw [if_neg c14] at H
                          exact absurd H (by simp)
                      · rw [if_neg c13] at H
                        exact absurd H (by simp)
                    · rw [if_neg c12] at H
                      have c12b0 : decide (x30_2 < (x3_1.length : Int)) = false := decide_eq_false c12
                      (try (have c12b90 := c12b0; simp only [hl142_4] at c12b90))
                      (try (have c12b91 := c12b0; simp only [hl3_2] at c12b91))
                      clear c12
                      have H' := Aside0.mk H
                      clear H
                      go_wp2
                      (try simp only [← hl3_2])
                      go_roundg k2
                      case measure => have := HK1.out; have := HK2.out; omega
                      case rel => exact ⟨(x3_2), (wrap64 (x14_1 + 1)), (by first | rfl | (simp; done) | (simp [*]; done)), H', ⟨by have := HK1.out; have := HK2.out; omega⟩, ⟨by (try simp only [hl3_2]); (with_reducible repeat (first | apply Kd.R_alloc | apply Go.Proofs.Ytnjbobboookfmaa.Ext.R_bytes | apply Kd.R_drewN | apply Kd.R_drew)); exact HO_3.out⟩, ⟨by repeat (first | (with_reducible first | exact HB.out | apply below_alloc | apply Go.Proofs.Ytnjbobboookfmaa.Ext.below_bytes | apply pw_below_drewN | apply below_drew1 | refine below_set ?_ GE143.out) | exact HB.out)⟩⟩
              · rw [if_neg c8] at H
                have c8b0 : (((rd_T27 l0 x14_1).f0) == 0) = false := beq_eq_false_iff_ne.mpr c8
                have c8b1 : (((rd_T27 l0 x14_1).f0) != 0) = true := bne_iff_ne.mpr c8
                by_cases c18 : ((rd_T27 l0 x14_1).f0) = 1
                · rw [if_pos c18] at H
                  have c18b0 : (((rd_T27 l0 x14_1).f0) == 1) = true := beq_iff_eq.mpr c18
                  have c18b1 : (((rd_T27 l0 x14_1).f0) != 1) = false := bne_eq_false_iff_eq.mpr c18
                  clear c18
                  obtain ⟨ji19, hji19⟩ : ∃ j_ : Int, (Go.bits .or .i64 (wrap64 ((wrap64 ((rd_T27 l0 x14_1).f1)) * 256)) (wrap64 ((rd_T27 l0 x14_1).f2))) = j_ := ⟨_, rfl⟩
                  replace H : (if 0 ≤ (ji19) then (if (ji19) < (x3_1.length : Int) then (spec_TableOf.l0 k1 (x3_1.set ((ji19) : Int).toNat (Go.bits .or .u8 ((((rd_T27 l0 x14_1).f5) * 16) % 256) ((rd_T27 l0 x14_1).f6))) l0 (l0.length : Int) (wrap64 (x14_1 + 1))) else (none)) else (none)) = some r := by first | (rw [hji19] at H; exact H) | (simp only [hji19] at H ⊢; exact H)
                  by_cases c20 : 0 ≤ (ji19)
                  · rw [if_pos c20] at H
                    have c20b0 : decide (0 ≤ (ji19)) = true := decide_eq_true c20
                    clear c20
                    by_cases c21 : (ji19) < (x3_1.length : Int)
                    · rw [if_pos c21] at H
                      have c21b0 : decide ((ji19) < (x3_1.length : Int)) = true := decide_eq_true c21
                      (try (have c21b90 := c21b0; simp only [hl142_4] at c21b90))
                      (try (have c21b91 := c21b0; simp only [hl3_2] at c21b91))
                      clear c21
                      obtain ⟨y145, hy145⟩ : ∃ y_ : List Int, y_ = (x3_1.set ((ji19) : Int).toNat (Go.bits .or .u8 ((((rd_T27 l0 x14_1).f5) * 16) % 256) ((rd_T27 l0 x14_1).f6))) := ⟨_, rfl⟩
                      replace H : (spec_TableOf.l0 k1 y145 l0 (l0.length : Int) (wrap64 (x14_1 + 1))) = some r := by first | (rw [hy145]; with_reducible exact H) | (have H2_ := (Option.bind_some _ _).symm.trans H; rw [hy145]; with_reducible exact H2_) | (have H2_ := (Option.bind_some _ _).symm.trans H; with_reducible exact H2_) | with_reducible exact H | (rw [hy145]; exact H) | exact H
                      have Ny145 := Aside0.mk hy145
                      clear hy145
                      have H' := Aside0.mk H
                      clear H
                      have p142 : 0 ≤ (x14_1 : Int) := of_decide_eq_true (by first | (with_reducible assumption) | assumption)
                      have q142 : x14_1 < (l0.length : Int) := of_decide_eq_true (by first | (with_reducible assumption) | assumption)
                      obtain ⟨ad142, A142_4, c142_4, e142, hx142_0, hx142_1, hx142_2, hx142_3, hx142_4, hx142_5, hx142_6, hl142_4, hi142_4⟩ := at_T27 HR0.out x14_1 p142 q142
                      cases e142
                      replace hx142_0 := (HB.out.cell (World.block_lt_of_cell? w _ hx142_0)).trans hx142_0
                      replace hx142_1 := (HB.out.cell (World.block_lt_of_cell? w _ hx142_1)).trans hx142_1
                      replace hx142_2 := (HB.out.cell (World.block_lt_of_cell? w _ hx142_2)).trans hx142_2
                      replace hx142_3 := (HB.out.cell (World.block_lt_of_cell? w _ hx142_3)).trans hx142_3
                      replace hx142_4 := (HB.out.cell (World.block_lt_of_cell? w _ hx142_4)).trans hx142_4
                      replace hx142_5 := (HB.out.cell (World.block_lt_of_cell? w _ hx142_5)).trans hx142_5
                      replace hx142_6 := (HB.out.cell (World.block_lt_of_cell? w _ hx142_6)).trans hx142_6
                      have HR142_4 := Aside0.mk hi142_4
                      have HC142_4 := Aside0.mk hl142_4
                      clear hi142_4 hl142_4
                      replace p142 := eq_true p142
                      replace q142 := eq_true q142
                      go_wp2_with (first | ((with_reducible refine gate_dst (N := 5) rfl ?_); refine box_event ?hg (N := 5) ?hd (cs := #[.int .i64 0, .int .u8 0, .int .u8 0, .int .u8 0, .slice none 0 0, .int .u8 0, .int .u8 0]) (t := 27) ?hr ?_; (case hd => rfl); (case hg => rfl); (case hr => first | (go_simp; done) | (go_simp; rfl)); intro gb143 hg w23 hbox hb; have n0_ := Aside0.mk (Kd.R_below (by (with_reducible repeat (first | apply Kd.R_alloc | apply Go.Proofs.Ytnjbobboookfmaa.Ext.R_bytes | apply Kd.R_drewN | apply Kd.R_drew)); exact HO_3.out) hb); have n1_ := Aside0.mk (below_step (by repeat (first | (with_reducible first | exact HB.out | apply below_alloc | apply Go.Proofs.Ytnjbobboookfmaa.Ext.below_bytes | apply pw_below_drewN | apply below_drew1) | exact HB.out)) hb); have n2_ := Aside0.mk (hbox); have n3_ := Aside0.mk ((by rw [hg]; exact (below_size (by repeat (first | (with_reducible first | exact HB.out | apply below_alloc | apply Go.Proofs.Ytnjbobboookfmaa.Ext.below_bytes | apply pw_below_drewN | apply below_drew1) | exact HB.out))) : w.heap.size ≤ gb143)); have n4_ := Aside0.mk ((by rw [hg]; exact (below_size (by repeat (first | (with_reducible first | exact HB.out | apply below_alloc | apply Go.Proofs.Ytnjbobboookfmaa.Ext.below_bytes | apply pw_below_drewN | apply below_drew1) | exact HB.out))) : w.heap.size ≤ gb143)); clear HO_3; clear HB; have HO_3 := n0_; have HB := n1_; have BK143 := n2_; have GW143 := n3_; have GE143 := n4_; clear n0_ n1_ n2_ n3_ n4_; clear hb hbox hg; have hcz24_0 : w23.cell? ⟨gb143, 0, none⟩ = some (.int .i64 0) := (blk_cell BK143.out 0).trans rfl; have hcz24_1 : w23.cell? ⟨gb143, 1, none⟩ = some (.int .u8 0) := (blk_cell BK143.out 1).trans rfl; have hcz24_2 : w23.cell? ⟨gb143, 2, none⟩ = some (.int .u8 0) := (blk_cell BK143.out 2).trans rfl; have hcz24_3 : w23.cell? ⟨gb143, 3, none⟩ = some (.int .u8 0) := (blk_cell BK143.out 3).trans rfl; have hcz24_4 : w23.cell? ⟨gb143, 4, none⟩ = some (.slice none 0 0) := (blk_cell BK143.out 4).trans rfl; have hcz24_5 : w23.cell? ⟨gb143, 5, none⟩ = some (.int .u8 0) := (blk_cell BK143.out 5).trans rfl; have hcz24_6 : w23.cell? ⟨gb143, 6, none⟩ = some (.int .u8 0) := (blk_cell BK143.out 6).trans rfl; have hfz24_0 := blk_frozen BK143.out 0; have hfz24_1 := blk_frozen BK143.out 1; have hfz24_2 := blk_frozen BK143.out 2; have hfz24_3 := blk_frozen BK143.out 3; have hfz24_4 := blk_frozen BK143.out 4; have hfz24_5 := blk_frozen BK143.out 5; have hfz24_6 := blk_frozen BK143.out 6) | ((with_reducible refine gate_store (t := 27) (p := 5) rfl ?_); refine store_event (t := 27) (p := 5) (v := ?vo_w25) (w1 := (((((((w23.setCell ⟨gb143, 0, none⟩ (.int .i64 ((rd_T27 l0 x14_1).f0))).setCell ⟨gb143, 1, none⟩ (.int .u8 ((rd_T27 l0 x14_1).f1))).setCell ⟨gb143, 2, none⟩ (.int .u8 ((rd_T27 l0 x14_1).f2))).setCell ⟨gb143, 3, none⟩ (.int .u8 ((rd_T27 l0 x14_1).f3))).setCell ⟨gb143, 4, none⟩ (.slice A142_4 ((rd_T27 l0 x14_1).f4).length c142_4)).setCell ⟨gb143, 5, none⟩ (.int .u8 ((rd_T27 l0 x14_1).f5))).setCell ⟨gb143, 6, none⟩ (.int .u8 ((rd_T27 l0 x14_1).f6)))) ?hg ?ho ?hn ?hr ?_; (case ho => rfl); (case hg => rfl); (case hn => rfl); (case hr => first | (go_simp; done) | (go_simp; rfl)); intro w25 hw; have n0_ : Aside0 (Kd.R (Kd.int .u8) 5 w25 w.heap.size (fun _ => True) v140 x3_1) := ⟨(by rw [hw]; exact (by (with_reducible repeat (first | apply Kd.R_alloc | apply Go.Proofs.Ytnjbobboookfmaa.Ext.R_bytes | apply Kd.R_drewN | apply Kd.R_drew)); exact Kd.R_mono (Kd.R_far (p := ⟨gb143, 6, none⟩) (Kd.R_far (p := ⟨gb143, 5, none⟩) (Kd.R_far (p := ⟨gb143, 4, none⟩) (Kd.R_far (p := ⟨gb143, 3, none⟩) (Kd.R_far (p := ⟨gb143, 2, none⟩) (Kd.R_far (p := ⟨gb143, 1, none⟩) (Kd.R_far (p := ⟨gb143, 0, none⟩) (Kd.R_types HO_3.out BK143.out (by decide)) (fun _ hk => hk.2) (.int .i64 ((rd_T27 l0 x14_1).f0))) (fun _ hk => hk.2) (.int .u8 ((rd_T27 l0 x14_1).f1))) (fun _ hk => hk.2) (.int .u8 ((rd_T27 l0 x14_1).f2))) (fun _ hk => hk.2) (.int .u8 ((rd_T27 l0 x14_1).f3))) (fun _ hk => hk.2) (.slice A142_4 ((rd_T27 l0 x14_1).f4).length c142_4)) (fun _ hk => hk.2) (.int .u8 ((rd_T27 l0 x14_1).f5))) (fun _ hk => hk.2) (.int .u8 ((rd_T27 l0 x14_1).f6))) (fun _ hk => trivial)))⟩; have n1_ : Aside0 (w25.heap[gb143]? = some (.cells #[.int .i64 ((rd_T27 l0 x14_1).f0), .int .u8 ((rd_T27 l0 x14_1).f1), .int .u8 ((rd_T27 l0 x14_1).f2), .int .u8 ((rd_T27 l0 x14_1).f3), .slice A142_4 ((rd_T27 l0 x14_1).f4).length c142_4, .int .u8 ((rd_T27 l0 x14_1).f5), .int .u8 ((rd_T27 l0 x14_1).f6)] 27 (0, 0))) := ⟨(by rw [hw]; exact (by (with_reducible repeat (first | refine blk_drewN ?_ _ | refine blk_drew ?_ | refine blk_alloc ?_ _)); refine blk_put (cs := #[.int .i64 ((rd_T27 l0 x14_1).f0), .int .u8 ((rd_T27 l0 x14_1).f1), .int .u8 ((rd_T27 l0 x14_1).f2), .int .u8 ((rd_T27 l0 x14_1).f3), .slice A142_4 ((rd_T27 l0 x14_1).f4).length c142_4, .int .u8 ((rd_T27 l0 x14_1).f5), .int .u8 0]) ?_ 6 _ rfl; (with_reducible repeat (first | refine blk_drewN ?_ _ | refine blk_drew ?_ | refine blk_alloc ?_ _)); refine blk_put (cs := #[.int .i64 ((rd_T27 l0 x14_1).f0), .int .u8 ((rd_T27 l0 x14_1).f1), .int .u8 ((rd_T27 l0 x14_1).f2), .int .u8 ((rd_T27 l0 x14_1).f3), .slice A142_4 ((rd_T27 l0 x14_1).f4).length c142_4, .int .u8 0, .int .u8 0]) ?_ 5 _ rfl; (with_reducible repeat (first | refine blk_drewN ?_ _ | refine blk_drew ?_ | refine blk_alloc ?_ _)); refine blk_put (cs := #[.int .i64 ((rd_T27 l0 x14_1).f0), .int .u8 ((rd_T27 l0 x14_1).f1), .int .u8 ((rd_T27 l0 x14_1).f2), .int .u8 ((rd_T27 l0 x14_1).f3), .slice none 0 0, .int .u8 0, .int .u8 0]) ?_ 4 _ rfl; (with_reducible repeat (first | refine blk_drewN ?_ _ | refine blk_drew ?_ | refine blk_alloc ?_ _)); refine blk_put (cs := #[.int .i64 ((rd_T27 l0 x14_1).f0), .int .u8 ((rd_T27 l0 x14_1).f1), .int .u8 ((rd_T27 l0 x14_1).f2), .int .u8 0, .slice none 0 0, .int .u8 0, .int .u8 0]) ?_ 3 _ rfl; (with_reducible repeat (first | refine blk_drewN ?_ _ | refine blk_drew ?_ | refine blk_alloc ?_ _)); refine blk_put (cs := #[.int .i64 ((rd_T27 l0 x14_1).f0), .int .u8 ((rd_T27 l0 x14_1).f1), .int .u8 0, .int .u8 0, .slice none 0 0, .int .u8 0, .int .u8 0]) ?_ 2 _ rfl; (with_reducible repeat (first | refine blk_drewN ?_ _ | refine blk_drew ?_ | refine blk_alloc ?_ _)); refine blk_put (cs := #[.int .i64 ((rd_T27 l0 x14_1).f0), .int .u8 0, .int .u8 0, .int .u8 0, .slice none 0 0, .int .u8 0, .int .u8 0]) ?_ 1 _ rfl; (with_reducible repeat (first | refine blk_drewN ?_ _ | refine blk_drew ?_ | refine blk_alloc ?_ _)); refine blk_put (cs := #[.int .i64 0, .int .u8 0, .int .u8 0, .int .u8 0, .slice none 0 0, .int .u8 0, .int .u8 0]) ?_ 0 _ rfl; (with_reducible repeat (first | refine blk_drewN ?_ _ | refine blk_drew ?_ | refine blk_alloc ?_ _)); exact BK143.out))⟩; have n2_ : Aside0 (Below w.heap.size w w25) := ⟨(by rw [hw]; exact (by repeat (first | (with_reducible first | exact HB.out | apply below_alloc | apply Go.Proofs.Ytnjbobboookfmaa.Ext.below_bytes | apply pw_below_drewN | apply below_drew1 | refine below_set ?_ GE143.out) | exact HB.out)))⟩; clear hw; clear HO_3; clear BK143; clear HB; have HO_3 := n0_; have BK143 := n1_; have HB := n2_; clear n0_ n1_ n2_; have hcz26_0 : w25.cell? ⟨gb143, 0, none⟩ = some (.int .i64 ((rd_T27 l0 x14_1).f0)) := (blk_cell BK143.out 0).trans rfl; have hcz26_1 : w25.cell? ⟨gb143, 1, none⟩ = some (.int .u8 ((rd_T27 l0 x14_1).f1)) := (blk_cell BK143.out 1).trans rfl; have hcz26_2 : w25.cell? ⟨gb143, 2, none⟩ = some (.int .u8 ((rd_T27 l0 x14_1).f2)) := (blk_cell BK143.out 2).trans rfl; have hcz26_3 : w25.cell? ⟨gb143, 3, none⟩ = some (.int .u8 ((rd_T27 l0 x14_1).f3)) := (blk_cell BK143.out 3).trans rfl; have hcz26_4 : w25.cell? ⟨gb143, 4, none⟩ = some (.slice A142_4 ((rd_T27 l0 x14_1).f4).length c142_4) := (blk_cell BK143.out 4).trans rfl; have hcz26_5 : w25.cell? ⟨gb143, 5, none⟩ = some (.int .u8 ((rd_T27 l0 x14_1).f5)) := (blk_cell BK143.out 5).trans rfl; have hcz26_6 : w25.cell? ⟨gb143, 6, none⟩ = some (.int .u8 ((rd_T27 l0 x14_1).f6)) := (blk_cell BK143.out 6).trans rfl; have hfz26_0 := blk_frozen BK143.out 0; have hfz26_1 := blk_frozen BK143.out 1; have hfz26_2 := blk_frozen BK143.out 2; have hfz26_3 := blk_frozen BK143.out 3; have hfz26_4 := blk_frozen BK143.out 4; have hfz26_5 := blk_frozen BK143.out 5; have hfz26_6 := blk_frozen BK143.out 6; have p22 : 0 ≤ ((ji19) : Int) := of_decide_eq_true (by first | (with_reducible assumption) | assumption); have q22 : ((ji19) : Int) < ((x3_1.length : Int) : Int) := of_decide_eq_true (by first | (with_reducible assumption) | assumption); obtain ⟨go22, co22, eo22, gb22, gl22, cl22, HG22⟩ := Kd.R_form HO_3.out (by omega); (first | cases eo22 | (injection eo22 with ea_ en_ ec_; (first | subst ea_ | (injection ea_ with ea_; subst ea_)); subst ec_; clear en_)); have GB22 := Aside0.mk gb22; have GG22 := Aside0.mk HG22; clear gb22 gl22 HG22; obtain ⟨hx22_0, hf22_0⟩ := Kd.R_celln 0 HO_3.out ((ji19) : Int) p22 q22; replace p22 := eq_true p22; replace q22 := eq_true q22; obtain ⟨hy27_, hz27_⟩ := Kd.R_celln 0 HO_3.out ((ji19) : Int) (of_decide_eq_true (by first | (with_reducible assumption) | assumption)) (of_decide_eq_true (by first | (with_reducible assumption) | assumption)); have HP27 := Kd.R_putg HO_3.out ((ji19) : Int) (Go.bits .or .u8 ((((rd_T27 l0 x14_1).f5) * 16) % 256) ((rd_T27 l0 x14_1).f6))) | ((with_reducible refine gate_store (t := 5) (p := 50) rfl ?_); refine store_event (t := 5) (p := 50) (v := ?vo_w28) (w1 := (w25.setCell ⟨go22, ((ji19) : Int).toNat, none⟩ (.int .u8 (Go.bits .or .u8 ((((rd_T27 l0 x14_1).f5) * 16) % 256) ((rd_T27 l0 x14_1).f6))))) ?hg ?ho ?hn ?hr ?_; (case ho => rfl); (case hg => rfl); (case hn => rfl); (case hr => first | (go_simp; done) | (go_simp; rfl)); intro w28 hw; have hg : w25.grownBy w28 (some go22) := (by rw [hw]; exact HP27.2); have hp_ : Kd.R (Kd.int .u8) 5 w28 w.heap.size (fun _ => True) (.slice (some ⟨go22, 0, none⟩) x3_1.length co22) y145 := (by rw [hw, Ny145.out]; exact HP27.1); clear HP27; have n0_ := Aside0.mk (hp_); have n1_ := Aside0.mk (blk_grown (g := gb143) (o := .cells #[.int .i64 ((rd_T27 l0 x14_1).f0), .int .u8 ((rd_T27 l0 x14_1).f1), .int .u8 ((rd_T27 l0 x14_1).f2), .int .u8 ((rd_T27 l0 x14_1).f3), .slice A142_4 ((rd_T27 l0 x14_1).f4).length c142_4, .int .u8 ((rd_T27 l0 x14_1).f5), .int .u8 ((rd_T27 l0 x14_1).f6)] 27 (0, 0)) (by (with_reducible repeat (first | refine blk_drewN ?_ _ | refine blk_drew ?_ | refine blk_alloc ?_ _)); exact BK143.out) hg (Kd.R_ne HO_3.out BK143.out (by decide))); have n2_ := Aside0.mk ((by rw [hw]; exact below_set (HB.out) GB22.out : Below w.heap.size w w28)); clear HO_3; clear BK143; clear HB; have HO_3 := n0_; have BK143 := n1_; have HB := n2_; clear n0_ n1_ n2_; clear hg hw hp_))
                      go_roundg k1
                      case measure => have := HK1.out; omega
                      case rel => exact ⟨(y145), (wrap64 (x14_1 + 1)), (by first | rfl | (simp; done) | (simp [*]; done)), H', ⟨by have := HK1.out; omega⟩, ⟨by (with_reducible repeat (first | apply Kd.R_alloc | apply Go.Proofs.Ytnjbobboookfmaa.Ext.R_bytes | apply Kd.R_drewN | apply Kd.R_drew)); exact HO_3.out⟩, ⟨by repeat (first | (with_reducible first | exact HB.out | apply below_alloc | apply Go.Proofs.Ytnjbobboookfmaa.Ext.below_bytes | apply pw_below_drewN | apply below_drew1 | refine below_set ?_ GE143.out) | exact HB.out)⟩⟩
                    · rw [if_neg c21] at H
                      exact absurd H (by simp)
                  · rw [if_neg c20] at H
                    exact absurd H (by simp)
                · rw [if_neg c18] at H
                  have c18b0 : (((rd_T27 l0 x14_1).f0) == 1) = false := beq_eq_false_iff_ne.mpr c18
                  have c18b1 : (((rd_T27 l0 x14_1).f0) != 1) = true := bne_iff_ne.mpr c18
                  by_cases c29 : ((rd_T27 l0 x14_1).f0) = 2
                  · rw [if_pos c29] at H
                    have c29b0 : (((rd_T27 l0 x14_1).f0) == 2) = true := beq_iff_eq.mpr c29
                    have c29b1 : (((rd_T27 l0 x14_1).f0) != 2) = false := bne_eq_false_iff_eq.mpr c29
                    clear c29
                    have H' := Aside0.mk H
                    clear H
                    have p142 : 0 ≤ (x14_1 : Int) := of_decide_eq_true (by first | (with_reducible assumption) | assumption)
                    have q142 : x14_1 < (l0.length : Int) := of_decide_eq_true (by first | (with_reducible assumption) | assumption)
                    obtain ⟨ad142, A142_4, c142_4, e142, hx142_0, hx142_1, hx142_2, hx142_3, hx142_4, hx142_5, hx142_6, hl142_4, hi142_4⟩ := at_T27 HR0.out x14_1 p142 q142
                    cases e142
                    replace hx142_0 := (HB.out.cell (World.block_lt_of_cell? w _ hx142_0)).trans hx142_0
                    replace hx142_1 := (HB.out.cell (World.block_lt_of_cell? w _ hx142_1)).trans hx142_1
                    replace hx142_2 := (HB.out.cell (World.block_lt_of_cell? w _ hx142_2)).trans hx142_2
                    replace hx142_3 := (HB.out.cell (World.block_lt_of_cell? w _ hx142_3)).trans hx142_3
                    replace hx142_4 := (HB.out.cell (World.block_lt_of_cell? w _ hx142_4)).trans hx142_4
                    replace hx142_5 := (HB.out.cell (World.block_lt_of_cell? w _ hx142_5)).trans hx142_5
                    replace hx142_6 := (HB.out.cell (World.block_lt_of_cell? w _ hx142_6)).trans hx142_6
                    have HR142_4 := Aside0.mk hi142_4
                    have HC142_4 := Aside0.mk hl142_4
                    clear hi142_4 hl142_4
                    replace p142 := eq_true p142
                    replace q142 := eq_true q142
                    go_wp2_with (first | ((with_reducible refine gate_dst (N := 5) rfl ?_); refine box_event ?hg (N := 5) ?hd (cs := #[.int .i64 0, .int .u8 0, .int .u8 0, .int .u8 0, .slice none 0 0, .int .u8 0, .int .u8 0]) (t := 27) ?hr ?_; (case hd => rfl); (case hg => rfl); (case hr => first | (go_simp; done) | (go_simp; rfl)); intro gb143 hg w30 hbox hb; have n0_ := Aside0.mk (Kd.R_below (by (with_reducible repeat (first | apply Kd.R_alloc | apply Go.Proofs.Ytnjbobboookfmaa.Ext.R_bytes | apply Kd.R_drewN | apply Kd.R_drew)); exact HO_3.out) hb); have n1_ := Aside0.mk (below_step (by repeat (first | (with_reducible first | exact HB.out | apply below_alloc | apply Go.Proofs.Ytnjbobboookfmaa.Ext.below_bytes | apply pw_below_drewN | apply below_drew1) | exact HB.out)) hb); have n2_ := Aside0.mk (hbox); have n3_ := Aside0.mk ((by rw [hg]; exact (below_size (by repeat (first | (with_reducible first | exact HB.out | apply below_alloc | apply Go.Proofs.Ytnjbobboookfmaa.Ext.below_bytes | apply pw_below_drewN | apply below_drew1) | exact HB.out))) : w.heap.size ≤ gb143)); have n4_ := Aside0.mk ((by rw [hg]; exact (below_size (by repeat (first | (with_reducible first | exact HB.out | apply below_alloc | apply Go.Proofs.Ytnjbobboookfmaa.Ext.below_bytes | apply pw_below_drewN | apply below_drew1) | exact HB.out))) : w.heap.size ≤ gb143)); clear HO_3; clear HB; have HO_3 := n0_; have HB := n1_; have BK143 := n2_; have GW143 := n3_; have GE143 := n4_; clear n0_ n1_ n2_ n3_ n4_; clear hb hbox hg; have hcz31_0 : w30.cell? ⟨gb143, 0, none⟩ = some (.int .i64 0) := (blk_cell BK143.out 0).trans rfl; have hcz31_1 : w30.cell? ⟨gb143, 1, none⟩ = some (.int .u8 0) := (blk_cell BK143.out 1).trans rfl; have hcz31_2 : w30.cell? ⟨gb143, 2, none⟩ = some (.int .u8 0) := (blk_cell BK143.out 2).trans rfl; have hcz31_3 : w30.cell? ⟨gb143, 3, none⟩ = some (.int .u8 0) := (blk_cell BK143.out 3).trans rfl; have hcz31_4 : w30.cell? ⟨gb143, 4, none⟩ = some (.slice none 0 0) := (blk_cell BK143.out 4).trans rfl; have hcz31_5 : w30.cell? ⟨gb143, 5, none⟩ = some (.int .u8 0) := (blk_cell BK143.out 5).trans rfl; have hcz31_6 : w30.cell? ⟨gb143, 6, none⟩ = some (.int .u8 0) := (blk_cell BK143.out 6).trans rfl; have hfz31_0 := blk_frozen BK143.out 0; have hfz31_1 := blk_frozen BK143.out 1; have hfz31_2 := blk_frozen BK143.out 2; have hfz31_3 := blk_frozen BK143.out 3; have hfz31_4 := blk_frozen BK143.out 4; have hfz31_5 := blk_frozen BK143.out 5; have hfz31_6 := blk_frozen BK143.out 6))
                    go_loopg [56] k1 (fun kq v56 w' => ∃ (x3_2 : List Int) (x56_2 : Int), v56 = .int .i64 x56_2 ∧ Aside0 (spec_TableOf.l2 kq x3_2 (Go.bits .or .u8 ((((rd_T27 l0 x14_1).f5) * 16) % 256) ((rd_T27 l0 x14_1).f6)) l0 (l0.length : Int) x14_1 ((rd_T27 l0 x14_1).f4) (((rd_T27 l0 x14_1).f4).length : Int) x56_2 ((rd_T27 l0 x14_1).f0) ((rd_T27 l0 x14_1).f1) ((rd_T27 l0 x14_1).f2) ((rd_T27 l0 x14_1).f3) ((rd_T27 l0 x14_1).f4) ((rd_T27 l0 x14_1).f5) ((rd_T27 l0 x14_1).f6) = some r) ∧ Aside0 (kq ≤ k1) ∧ Aside0 (Kd.R (Kd.int .u8) 5 w' w.heap.size (fun _ => True) v140 x3_2) ∧ Aside0 (w'.heap[gb143]? = some (.cells #[.int .i64 ((rd_T27 l0 x14_1).f0), .int .u8 ((rd_T27 l0 x14_1).f1), .int .u8 ((rd_T27 l0 x14_1).f2), .int .u8 ((rd_T27 l0 x14_1).f3), (.slice A142_4 ((rd_T27 l0 x14_1).f4).length c142_4), .int .u8 ((rd_T27 l0 x14_1).f5), .int .u8 ((rd_T27 l0 x14_1).f6)] 27 (0, 0))) ∧ Aside0 (Below w.heap.size w w'))
                    case atStart => exact ⟨(x3_1), (0), (by first | rfl | (simp; done) | (simp [*]; done)), H', ⟨Nat.le_refl _⟩, ⟨by (with_reducible repeat (first | apply Kd.R_alloc | apply Go.Proofs.Ytnjbobboookfmaa.Ext.R_bytes | apply Kd.R_drewN | apply Kd.R_drew)); exact Kd.R_mono (Kd.R_far (p := ⟨gb143, 6, none⟩) (Kd.R_far (p := ⟨gb143, 5, none⟩) (Kd.R_far (p := ⟨gb143, 4, none⟩) (Kd.R_far (p := ⟨gb143, 3, none⟩) (Kd.R_far (p := ⟨gb143, 2, none⟩) (Kd.R_far (p := ⟨gb143, 1, none⟩) (Kd.R_far (p := ⟨gb143, 0, none⟩) (Kd.R_types HO_3.out BK143.out (by decide)) (fun _ hk => hk.2) (.int .i64 ((rd_T27 l0 x14_1).f0))) (fun _ hk => hk.2) (.int .u8 ((rd_T27 l0 x14_1).f1))) (fun _ hk => hk.2) (.int .u8 ((rd_T27 l0 x14_1).f2))) (fun _ hk => hk.2) (.int .u8 ((rd_T27 l0 x14_1).f3))) (fun _ hk => hk.2) (.slice A142_4 ((rd_T27 l0 x14_1).f4).length c142_4)) (fun _ hk => hk.2) (.int .u8 ((rd_T27 l0 x14_1).f5))) (fun _ hk => hk.2) (.int .u8 ((rd_T27 l0 x14_1).f6))) (fun _ hk => trivial)⟩, ⟨by (with_reducible repeat (first | refine blk_drewN ?_ _ | refine blk_drew ?_ | refine blk_alloc ?_ _)); refine blk_put (cs := #[.int .i64 ((rd_T27 l0 x14_1).f0), .int .u8 ((rd_T27 l0 x14_1).f1), .int .u8 ((rd_T27 l0 x14_1).f2), .int .u8 ((rd_T27 l0 x14_1).f3), .slice A142_4 ((rd_T27 l0 x14_1).f4).length c142_4, .int .u8 ((rd_T27 l0 x14_1).f5), .int .u8 0]) ?_ 6 _ rfl; (with_reducible repeat (first | refine blk_drewN ?_ _ | refine blk_drew ?_ | refine blk_alloc ?_ _)); refine blk_put (cs := #[.int .i64 ((rd_T27 l0 x14_1).f0), .int .u8 ((rd_T27 l0 x14_1).f1), .int .u8 ((rd_T27 l0 x14_1).f2), .int .u8 ((rd_T27 l0 x14_1).f3), .slice A142_4 ((rd_T27 l0 x14_1).f4).length c142_4, .int .u8 0, .int .u8 0]) ?_ 5 _ rfl; (with_reducible repeat (first | refine blk_drewN ?_ _ | refine blk_drew ?_ | refine blk_alloc ?_ _)); refine blk_put (cs := #[.int .i64 ((rd_T27 l0 x14_1).f0), .int .u8 ((rd_T27 l0 x14_1).f1), .int .u8 ((rd_T27 l0 x14_1).f2), .int .u8 ((rd_T27 l0 x14_1).f3), .slice none 0 0, .int .u8 0, .int .u8 0]) ?_ 4 _ rfl; (with_reducible repeat (first | refine blk_drewN ?_ _ | refine blk_drew ?_ | refine blk_alloc ?_ _)); refine blk_put (cs := #[.int .i64 ((rd_T27 l0 x14_1).f0), .int .u8 ((rd_T27 l0 x14_1).f1), .int .u8 ((rd_T27 l0 x14_1).f2), .int .u8 0, .slice none 0 0, .int .u8 0, .int .u8 0]) ?_ 3 _ rfl; (with_reducible repeat (first | refine blk_drewN ?_ _ | refine blk_drew ?_ | refine blk_alloc ?_ _)); refine blk_put (cs := #[.int .i64 ((rd_T27 l0 x14_1).f0), .int .u8 ((rd_T27 l0 x14_1).f1), .int .u8 0, .int .u8 0, .slice none 0 0, .int .u8 0, .int .u8 0]) ?_ 2 _ rfl; (with_reducible repeat (first | refine blk_drewN ?_ _ | refine blk_drew ?_ | refine blk_alloc ?_ _)); refine blk_put (cs := #[.int .i64 ((rd_T27 l0 x14_1).f0), .int .u8 0, .int .u8 0, .int .u8 0, .slice none 0 0, .int .u8 0, .int .u8 0]) ?_ 1 _ rfl; (with_reducible repeat (first | refine blk_drewN ?_ _ | refine blk_drew ?_ | refine blk_alloc ?_ _)); refine blk_put (cs := #[.int .i64 0, .int .u8 0, .int .u8 0, .int .u8 0, .slice none 0 0, .int .u8 0, .int .u8 0]) ?_ 0 _ rfl; (with_reducible repeat (first | refine blk_drewN ?_ _ | refine blk_drew ?_ | refine blk_alloc ?_ _)); exact BK143.out⟩, ⟨by repeat (first | (with_reducible first | exact HB.out | apply below_alloc | apply Go.Proofs.Ytnjbobboookfmaa.Ext.below_bytes | apply pw_below_drewN | apply below_drew1 | refine below_set ?_ GE143.out) | exact HB.out)⟩⟩
                    case round =>
                      clear H'
                      try clear c1
                      try clear p1
                      try clear q1
                      try clear hx1
                      try clear hf1
                      try clear c2
                      try clear c2b0
                      try clear c2b1
                      try clear p2
                      try clear q2
                      try clear hx2
                      try clear hf2
                      try clear c5
                      try clear c5b0
                      try clear c6
                      try clear c6b0
                      try clear p6
                      try clear c7
                      try clear c7b0
                      try clear c8
                      try clear c8b0
                      try clear c8b1
                      try clear c12
                      try clear c12b0
                      try clear c13
                      try clear c13b0
                      try clear c14
                      try clear c14b0
                      try clear p14
                      try clear q14
                      try clear hx14
                      try clear p15
                      try clear q15
                      try clear hx15
                      try clear hf15
                      try clear c18
                      try clear c18b0
                      try clear c18b1
                      try clear c20
                      try clear c20b0
                      try clear c21
                      try clear c21b0
                      try clear p22
                      try clear q22
                      try clear hx22
                      try clear hf22
                      try clear c29
                      try clear c29b0
                      try clear c29b1
                      try clear hcz10_0
                      try clear hcz10_1
                      try clear hcz10_2
                      try clear hcz10_3
                      try clear hcz10_4
                      try clear hcz10_5
                      try clear hcz10_6
                      try clear hcz24_0
                      try clear hcz24_1
                      try clear hcz24_2
                      try clear hcz24_3
                      try clear hcz24_4
                      try clear hcz24_5
                      try clear hcz24_6
                      try clear hcz26_0
                      try clear hcz26_1
                      try clear hcz26_2
                      try clear hcz26_3
                      try clear hcz26_4
                      try clear hcz26_5
                      try clear hcz26_6
                      try clear hcz31_0
                      try clear hcz31_1
                      try clear hcz31_2
                      try clear hcz31_3
                      try clear hcz31_4
                      try clear hcz31_5
                      try clear hcz31_6
                      try clear hfz10_0
                      try clear hfz10_1
                      try clear hfz10_2
                      try clear hfz10_3
                      try clear hfz10_4
                      try clear hfz10_5
                      try clear hfz10_6
                      try clear hfz24_0
                      try clear hfz24_1
                      try clear hfz24_2
                      try clear hfz24_3
                      try clear hfz24_4
                      try clear hfz24_5
                      try clear hfz24_6
                      try clear hfz26_0
                      try clear hfz26_1
                      try clear hfz26_2
                      try clear hfz26_3
                      try clear hfz26_4
                      try clear hfz26_5
                      try clear hfz26_6
                      try clear hfz31_0
                      try clear hfz31_1
                      try clear hfz31_2
                      try clear hfz31_3
                      try clear hfz31_4
                      try clear hfz31_5
                      try clear hfz31_6
                      try clear hx142_0
                      try clear hx142_1
                      try clear hx142_2
                      try clear hx142_3
                      try clear hx142_4
                      try clear hx142_5
                      try clear hx142_6
                      try clear hx15_0
                      try clear hx22_0
                      try clear p1
                      try clear p142
                      try clear p15
                      try clear p2
                      try clear p22
                      try clear q1
                      try clear q142
                      try clear q15
                      try clear q22
                      obtain ⟨x3_2, x56_2, rfl, HA, HK2, HO_3, BK143, HB⟩ := hrel
                      cases gk with
                      | zero => exact absurd HA.out (by simp [spec_TableOf.l2])
                      | succ k2 =>
                        have H := HA.out
                        clear HA
                        simp only [spec_TableOf.l2] at H
                        by_cases c32 : x56_2 < (((rd_T27 l0 x14_1).f4).length : Int)
                        · rw [if_pos c32] at H
                          have c32b0 : decide (x56_2 < (((rd_T27 l0 x14_1).f4).length : Int)) = true := decide_eq_true c32
                          (try (have c32b90 := c32b0; simp only [hl142_4] at c32b90))
                          (try (have c32b91 := c32b0; simp only [hl3_2] at c32b91))
                          clear c32
                          by_cases c33 : 0 ≤ x56_2
                          · rw [if_pos c33] at H
                            have c33b0 : decide (0 ≤ x56_2) = true := decide_eq_true c33
                            clear c33
                            by_cases c34 : x56_2 < (((rd_T27 l0 x14_1).f4).length : Int)
                            · rw [if_pos c34] at H
                              have c34b0 : decide (x56_2 < (((rd_T27 l0 x14_1).f4).length : Int)) = true := decide_eq_true c34
                              (try (have c34b90 := c34b0; simp only [hl142_4] at c34b90))
                              (try (have c34b91 := c34b0; simp only [hl3_2] at c34b91))
                              clear c34
                              obtain ⟨ji35, hji35⟩ : ∃ j_ : Int, (Go.bits .or .i64 (wrap64 ((wrap64 (((rd_T27 l0 x14_1).f1))) * 256)) (wrap64 (rd ((rd_T27 l0 x14_1).f4) x56_2))) = j_ := ⟨_, rfl⟩
                              replace H : (if 0 ≤ (ji35) then (if (ji35) < (x3_2.length : Int) then (spec_TableOf.l2 k2 (x3_2.set ((ji35) : Int).toNat (Go.bits .or .u8 ((((rd_T27 l0 x14_1).f5) * 16) % 256) ((rd_T27 l0 x14_1).f6))) (Go.bits .or .u8 ((((rd_T27 l0 x14_1).f5) * 16) % 256) ((rd_T27 l0 x14_1).f6)) l0 (l0.length : Int) x14_1 ((rd_T27 l0 x14_1).f4) (((rd_T27 l0 x14_1).f4).length : Int) (wrap64 (x56_2 + 1)) ((rd_T27 l0 x14_1).f0) ((rd_T27 l0 x14_1).f1) ((rd_T27 l0 x14_1).f2) ((rd_T27 l0 x14_1).f3) ((rd_T27 l0 x14_1).f4) ((rd_T27 l0 x14_1).f5) ((rd_T27 l0 x14_1).f6)) else (none)) else (none)) = some r := by first | (rw [hji35] at H; exact H) | (simp only [hji35] at H ⊢; exact H)
                              by_cases c36 : 0 ≤ (ji35)
                              · rw [if_pos c36] at H
                                have c36b0 : decide (0 ≤ (ji35)) = true := decide_eq_true c36
                                clear c36
                                by_cases c37 : (ji35) < (x3_2.length : Int)
                                · rw [if_pos c37] at H
                                  have c37b0 : decide ((ji35) < (x3_2.length : Int)) = true := decide_eq_true c37
                                  (try (have c37b90 := c37b0; simp only [hl142_4] at c37b90))
                                  (try (have c37b91 := c37b0; simp only [hl3_2] at c37b91))
                                  clear c37
                                  obtain ⟨y147, hy147⟩ : ∃ y_ : List Int, y_ = (x3_2.set ((ji35) : Int).toNat (Go.bits .or .u8 ((((rd_T27 l0 x14_1).f5) * 16) % 256) ((rd_T27 l0 x14_1).f6))) := ⟨_, rfl⟩
                                  replace H : (spec_TableOf.l2 k2 y147 (Go.bits .or .u8 ((((rd_T27 l0 x14_1).f5) * 16) % 256) ((rd_T27 l0 x14_1).f6)) l0 (l0.length : Int) x14_1 ((rd_T27 l0 x14_1).f4) (((rd_T27 l0 x14_1).f4).length : Int) (wrap64 (x56_2 + 1)) ((rd_T27 l0 x14_1).f0) ((rd_T27 l0 x14_1).f1) ((rd_T27 l0 x14_1).f2) ((rd_T27 l0 x14_1).f3) ((rd_T27 l0 x14_1).f4) ((rd_T27 l0 x14_1).f5) ((rd_T27 l0 x14_1).f6)) = some r := by first | (rw [hy147]; with_reducible exact H) | (have H2_ := (Option.bind_some _ _).symm.trans H; rw [hy147]; with_reducible exact H2_) | (have H2_ := (Option.bind_some _ _).symm.trans H; with_reducible exact H2_) | with_reducible exact H | (rw [hy147]; exact H) | exact H
                                  have Ny147 := Aside0.mk hy147
                                  clear hy147
                                  have H' := Aside0.mk H
                                  clear H
                                  have p146 : 0 ≤ (x56_2 : Int) := of_decide_eq_true (by first | (with_reducible assumption) | assumption)
                                  have q146 : x56_2 < (((rd_T27 l0 x14_1).f4).length : Int) := of_decide_eq_true (by first | (with_reducible assumption) | assumption)
                                  obtain ⟨ad146, e146, hx146_0⟩ := Kd.at_int HR142_4.out x56_2 p146 q146
                                  cases e146
                                  replace hx146_0 := (HB.out.cell (World.block_lt_of_cell? w _ hx146_0)).trans hx146_0
                                  replace p146 := eq_true p146
                                  replace q146 := eq_true q146
                                  have hcz39_0 : wr.cell? ⟨gb143, 0, none⟩ = some (.int .i64 ((rd_T27 l0 x14_1).f0)) := (blk_cell BK143.out 0).trans rfl
                                  have hcz39_1 : wr.cell? ⟨gb143, 1, none⟩ = some (.int .u8 ((rd_T27 l0 x14_1).f1)) := (blk_cell BK143.out 1).trans rfl
                                  have hcz39_2 : wr.cell? ⟨gb143, 2, none⟩ = some (.int .u8 ((rd_T27 l0 x14_1).f2)) := (blk_cell BK143.out 2).trans rfl
                                  have hcz39_3 : wr.cell? ⟨gb143, 3, none⟩ = some (.int .u8 ((rd_T27 l0 x14_1).f3)) := (blk_cell BK143.out 3).trans rfl
                                  have hcz39_4 : wr.cell? ⟨gb143, 4, none⟩ = some (.slice (some ad146) ((rd_T27 l0 x14_1).f4).length c142_4) := (blk_cell BK143.out 4).trans rfl
                                  have hcz39_5 : wr.cell? ⟨gb143, 5, none⟩ = some (.int .u8 ((rd_T27 l0 x14_1).f5)) := (blk_cell BK143.out 5).trans rfl
                                  have hcz39_6 : wr.cell? ⟨gb143, 6, none⟩ = some (.int .u8 ((rd_T27 l0 x14_1).f6)) := (blk_cell BK143.out 6).trans rfl
                                  have hfz39_0 := blk_frozen BK143.out 0
                                  have hfz39_1 := blk_frozen BK143.out 1
                                  have hfz39_2 := blk_frozen BK143.out 2
                                  have hfz39_3 := blk_frozen BK143.out 3
                                  have hfz39_4 := blk_frozen BK143.out 4
                                  have hfz39_5 := blk_frozen BK143.out 5
                                  have hfz39_6 := blk_frozen BK143.out 6
                                  have p38 : 0 ≤ ((ji35) : Int) := of_decide_eq_true (by first | (with_reducible assumption) | assumption)
                                  have q38 : ((ji35) : Int) < ((x3_2.length : Int) : Int) := of_decide_eq_true (by first | (with_reducible assumption) | assumption)
                                  obtain ⟨go38, co38, eo38, gb38, gl38, cl38, HG38⟩ := Kd.R_form HO_3.out (by omega)
                                  (first | cases eo38 | (injection eo38 with ea_ en_ ec_; (first | subst ea_ | (injection ea_ with ea_; subst ea_)); subst ec_; clear en_))
                                  have GB38 := Aside0.mk gb38
                                  have GG38 := Aside0.mk HG38
                                  clear gb38 gl38 HG38
                                  obtain ⟨hx38_0, hf38_0⟩ := Kd.R_celln 0 HO_3.out ((ji35) : Int) p38 q38
                                  replace p38 := eq_true p38
                                  replace q38 := eq_true q38
                                  have HP40 := Kd.R_putg HO_3.out ((ji35) : Int) (Go.bits .or .u8 ((((rd_T27 l0 x14_1).f5) * 16) % 256) ((rd_T27 l0 x14_1).f6))
                                  go_wp2_with (first | ((with_reducible refine gate_store (t := 5) (p := 69) rfl ?_); refine store_event (t := 5) (p := 69) (v := ?vo_w41) (w1 := (wr.setCell ⟨go38, ((ji35) : Int).toNat, none⟩ (.int .u8 (Go.bits .or .u8 ((((rd_T27 l0 x14_1).f5) * 16) % 256) ((rd_T27 l0 x14_1).f6))))) ?hg ?ho ?hn ?hr ?_; (case ho => rfl); (case hg => rfl); (case hn => rfl); (case hr => first | (go_simp; done) | (go_simp; rfl)); intro w41 hw; have hg : wr.grownBy w41 (some go38) := (by rw [hw]; exact HP40.2); have hp_ : Kd.R (Kd.int .u8) 5 w41 w.heap.size (fun _ => True) (.slice (some ⟨go38, 0, none⟩) x3_2.length co38) y147 := (by rw [hw, Ny147.out]; exact HP40.1); clear HP40; have n0_ := Aside0.mk (hp_); have n1_ := Aside0.mk (blk_grown (g := gb143) (o := .cells #[.int .i64 ((rd_T27 l0 x14_1).f0), .int .u8 ((rd_T27 l0 x14_1).f1), .int .u8 ((rd_T27 l0 x14_1).f2), .int .u8 ((rd_T27 l0 x14_1).f3), .slice (some ad146) ((rd_T27 l0 x14_1).f4).length c142_4, .int .u8 ((rd_T27 l0 x14_1).f5), .int .u8 ((rd_T27 l0 x14_1).f6)] 27 (0, 0)) (by (with_reducible repeat (first | refine blk_drewN ?_ _ | refine blk_drew ?_ | refine blk_alloc ?_ _)); exact BK143.out) hg (Kd.R_ne HO_3.out BK143.out (by decide))); have n2_ := Aside0.mk ((by rw [hw]; exact below_set (HB.out) GB38.out : Below w.heap.size w w41)); clear HO_3; clear BK143; clear HB; have HO_3 := n0_; have BK143 := n1_; have HB := n2_; clear n0_ n1_ n2_; clear hg hw hp_))
                                  go_roundg k2
                                  case measure => have := HK1.out; have := HK2.out; omega
                                  case rel => exact ⟨(y147), (wrap64 (x56_2 + 1)), (by first | rfl | (simp; done) | (simp [*]; done)), H', ⟨by have := HK1.out; have := HK2.out; omega⟩, ⟨by (with_reducible repeat (first | apply Kd.R_alloc | apply Go.Proofs.Ytnjbobboookfmaa.Ext.R_bytes | apply Kd.R_drewN | apply Kd.R_drew)); exact HO_3.out⟩, ⟨by (with_reducible repeat (first | refine blk_drewN ?_ _ | refine blk_drew ?_ | refine blk_alloc ?_ _)); exact BK143.out⟩, ⟨by repeat (first | (with_reducible first | exact HB.out | apply below_alloc | apply Go.Proofs.Ytnjbobboookfmaa.Ext.below_bytes | apply pw_below_drewN | apply below_drew1 | refine below_set ?_ GE143.out) | exact HB.out)⟩⟩
                                · rw [if_neg c37] at H
                                  exact absurd H (by simp)
                              · rw [if_neg c36] at H
                                exact absurd H (by simp)
                            · rw [if_neg c34] at H
                              exact absurd H (by simp)
                          · rw [if_neg c33] at H
                            exact absurd H (by simp)
                        · rw [if_neg c32] at H
                          have c32b0 : decide (x56_2 < (((rd_T27 l0 x14_1).f4).length : Int)) = false := decide_eq_false c32
                          (try (have c32b90 := c32b0; simp only [hl142_4] at c32b90))
                          (try (have c32b91 := c32b0; simp only [hl3_2] at c32b91))
                          clear c32
                          have H' := Aside0.mk H
                          clear H
                          go_wp2
                          go_roundg k2
                          case measure => have := HK1.out; have := HK2.out; omega
                          case rel => exact ⟨(x3_2), (wrap64 (x14_1 + 1)), (by first | rfl | (simp; done) | (simp [*]; done)), H', ⟨by have := HK1.out; have := HK2.out; omega⟩, ⟨by (with_reducible repeat (first | apply Kd.R_alloc | apply Go.Proofs.Ytnjbobboookfmaa.Ext.R_bytes | apply Kd.R_drewN | apply Kd.R_drew)); exact HO_3.out⟩, ⟨by repeat (first | (with_reducible first | exact HB.out | apply below_alloc | apply Go.Proofs.Ytnjbobboookfmaa.Ext.below_bytes | apply pw_below_drewN | apply below_drew1 | refine below_set ?_ GE143.out) | exact HB.out)⟩⟩
                  · rw [if_neg c29] at H
                    have c29b0 : (((rd_T27 l0 x14_1).f0) == 2) = false := beq_eq_false_iff_ne.mpr c29
                    have c29b1 : (((rd_T27 l0 x14_1).f0) != 2) = true := bne_iff_ne.mpr c29
                    by_cases c42 : ((rd_T27 l0 x14_1).f0) = 3
                    · rw [if_pos c42] at H
                      have c42b0 : (((rd_T27 l0 x14_1).f0) == 3) = true := beq_iff_eq.mpr c42
                      have c42b1 : (((rd_T27 l0 x14_1).f0) != 3) = false := bne_eq_false_iff_eq.mpr c42
                      clear c42
                      have H' := Aside0.mk H
                      clear H
                      have p142 : 0 ≤ (x14_1 : Int) := of_decide_eq_true (by first | (with_reducible assumption) | assumption)
                      have q142 : x14_1 < (l0.length : Int) := of_decide_eq_true (by first | (with_reducible assumption) | assumption)
                      obtain ⟨ad142, A142_4, c142_4, e142, hx142_0, hx142_1, hx142_2, hx142_3, hx142_4, hx142_5, hx142_6, hl142_4, hi142_4⟩ := at_T27 HR0.out x14_1 p142 q142
                      cases e142
                      replace hx142_0 := (HB.out.cell (World.block_lt_of_cell? w _ hx142_0)).trans hx142_0
                      replace hx142_1 := (HB.out.cell (World.block_lt_of_cell? w _ hx142_1)).trans hx142_1
                      replace hx142_2 := (HB.out.cell (World.block_lt_of_cell? w _ hx142_2)).trans hx142_2
                      replace hx142_3 := (HB.out.cell (World.block_lt_of_cell? w _ hx142_3)).trans hx142_3
                      replace hx142_4 := (HB.out.cell (World.block_lt_of_cell? w _ hx142_4)).trans hx142_4
                      replace hx142_5 := (HB.out.cell (World.block_lt_of_cell? w _ hx142_5)).trans hx142_5
                      replace hx142_6 := (HB.out.cell (World.block_lt_of_cell? w _ hx142_6)).trans hx142_6
                      have HR142_4 := Aside0.mk hi142_4
                      have HC142_4 := Aside0.mk hl142_4
                      clear hi142_4 hl142_4
                      replace p142 := eq_true p142
                      replace q142 := eq_true q142
                      go_wp2_with (first | ((with_reducible refine gate_dst (N := 5) rfl ?_); refine box_event ?hg (N := 5) ?hd (cs := #[.int .i64 0, .int .u8 0, .int .u8 0, .int .u8 0, .slice none 0 0, .int .u8 0, .int .u8 0]) (t := 27) ?hr ?_; (case hd => rfl); (case hg => rfl); (case hr => first | (go_simp; done) | (go_simp; rfl)); intro gb143 hg w43 hbox hb; have n0_ := Aside0.mk (Kd.R_below (by (with_reducible repeat (first | apply Kd.R_alloc | apply Go.Proofs.Ytnjbobboookfmaa.Ext.R_bytes | apply Kd.R_drewN | apply Kd.R_drew)); exact HO_3.out) hb); have n1_ := Aside0.mk (below_step (by repeat (first | (with_reducible first | exact HB.out | apply below_alloc | apply Go.Proofs.Ytnjbobboookfmaa.Ext.below_bytes | apply pw_below_drewN | apply below_drew1) | exact HB.out)) hb); have n2_ := Aside0.mk (hbox); have n3_ := Aside0.mk ((by rw [hg]; exact (below_size (by repeat (first | (with_reducible first | exact HB.out | apply below_alloc | apply Go.Proofs.Ytnjbobboookfmaa.Ext.below_bytes | apply pw_below_drewN | apply below_drew1) | exact HB.out))) : w.heap.size ≤ gb143)); have n4_ := Aside0.mk ((by rw [hg]; exact (below_size (by repeat (first | (with_reducible first | exact HB.out | apply below_alloc | apply Go.Proofs.Ytnjbobboookfmaa.Ext.below_bytes | apply pw_below_drewN | apply below_drew1) | exact HB.out))) : w.heap.size ≤ gb143)); clear HO_3; clear HB; have HO_3 := n0_; have HB := n1_; have BK143 := n2_; have GW143 := n3_; have GE143 := n4_; clear n0_ n1_ n2_ n3_ n4_; clear hb hbox hg; have hcz44_0 : w43.cell? ⟨gb143, 0, none⟩ = some (.int .i64 0) := (blk_cell BK143.out 0).trans rfl; have hcz44_1 : w43.cell? ⟨gb143, 1, none⟩ = some (.int .u8 0) := (blk_cell BK143.out 1).trans rfl; have hcz44_2 : w43.cell? ⟨gb143, 2, none⟩ = some (.int .u8 0) := (blk_cell BK143.out 2).trans rfl; have hcz44_3 : w43.cell? ⟨gb143, 3, none⟩ = some (.int .u8 0) := (blk_cell BK143.out 3).trans rfl; have hcz44_4 : w43.cell? ⟨gb143, 4, none⟩ = some (.slice none 0 0) := (blk_cell BK143.out 4).trans rfl; have hcz44_5 : w43.cell? ⟨gb143, 5, none⟩ = some (.int .u8 0) := (blk_cell BK143.out 5).trans rfl; have hcz44_6 : w43.cell? ⟨gb143, 6, none⟩ = some (.int .u8 0) := (blk_cell BK143.out 6).trans rfl; have hfz44_0 := blk_frozen BK143.out 0; have hfz44_1 := blk_frozen BK143.out 1; have hfz44_2 := blk_frozen BK143.out 2; have hfz44_3 := blk_frozen BK143.out 3; have hfz44_4 := blk_frozen BK143.out 4; have hfz44_5 := blk_frozen BK143.out 5; have hfz44_6 := blk_frozen BK143.out 6))
                      go_loopg [10] k1 (fun kq v10 w' => ∃ (x3_2 : List Int) (x10_2 : Int), v10 = .int .i64 x10_2 ∧ Aside0 (spec_TableOf.l3 kq x3_2 (Go.bits .or .u8 ((((rd_T27 l0 x14_1).f5) * 16) % 256) ((rd_T27 l0 x14_1).f6)) x10_2 l0 (l0.length : Int) x14_1 ((rd_T27 l0 x14_1).f0) ((rd_T27 l0 x14_1).f1) ((rd_T27 l0 x14_1).f2) ((rd_T27 l0 x14_1).f3) ((rd_T27 l0 x14_1).f4) ((rd_T27 l0 x14_1).f5) ((rd_T27 l0 x14_1).f6) = some r) ∧ Aside0 (kq ≤ k1) ∧ Aside0 (Kd.R (Kd.int .u8) 5 w' w.heap.size (fun _ => True) v140 x3_2) ∧ Aside0 (w'.heap[gb143]? = some (.cells #[.int .i64 ((rd_T27 l0 x14_1).f0), .int .u8 ((rd_T27 l0 x14_1).f1), .int .u8 ((rd_T27 l0 x14_1).f2), .int .u8 ((rd_T27 l0 x14_1).f3), (.slice A142_4 ((rd_T27 l0 x14_1).f4).length c142_4), .int .u8 ((rd_T27 l0 x14_1).f5), .int .u8 ((rd_T27 l0 x14_1).f6)] 27 (0, 0))) ∧ Aside0 (Below w.heap.size w w'))
                      case atStart => exact ⟨(x3_1), (wrap64 ((rd_T27 l0 x14_1).f2)), (by first | rfl | (simp; done) | (simp [*]; done)), H', ⟨Nat.le_refl _⟩, ⟨by (with_reducible repeat (first | apply Kd.R_alloc | apply Go.Proofs.Ytnjbobboookfmaa.Ext.R_bytes | apply Kd.R_drewN | apply Kd.R_drew)); exact Kd.R_mono (Kd.R_far (p := ⟨gb143, 6, none⟩) (Kd.R_far (p := ⟨gb143, 5, none⟩) (Kd.R_far (p := ⟨gb143, 4, none⟩) (Kd.R_far (p := ⟨gb143, 3, none⟩) (Kd.R_far (p := ⟨gb143, 2, none⟩) (Kd.R_far (p := ⟨gb143, 1, none⟩) (Kd.R_far (p := ⟨gb143, 0, none⟩) (Kd.R_types HO_3.out BK143.out (by decide)) (fun _ hk => hk.2) (.int .i64 ((rd_T27 l0 x14_1).f0))) (fun _ hk => hk.2) (.int .u8 ((rd_T27 l0 x14_1).f1))) (fun _ hk => hk.2) (.int .u8 ((rd_T27 l0 x14_1).f2))) (fun _ hk => hk.2) (.int .u8 ((rd_T27 l0 x14_1).f3))) (fun _ hk => hk.2) (.slice A142_4 ((rd_T27 l0 x14_1).f4).length c142_4)) (fun _ hk => hk.2) (.int .u8 ((rd_T27 l0 x14_1).f5))) (fun _ hk => hk.2) (.int .u8 ((rd_T27 l0 x14_1).f6))) (fun _ hk => trivial)⟩, ⟨by (with_reducible repeat (first | refine blk_drewN ?_ _ | refine blk_drew ?_ | refine blk_alloc ?_ _)); refine blk_put (cs := #[.int .i64 ((rd_T27 l0 x14_1).f0), .int .u8 ((rd_T27 l0 x14_1).f1), .int .u8 ((rd_T27 l0 x14_1).f2), .int .u8 ((rd_T27 l0 x14_1).f3), .slice A142_4 ((rd_T27 l0 x14_1).f4).length c142_4, .int .u8 ((rd_T27 l0 x14_1).f5), .int .u8 0]) ?_ 6 _ rfl; (with_reducible repeat (first | refine blk_drewN ?_ _ | refine blk_drew ?_ | refine blk_alloc ?_ _)); refine blk_put (cs := #[.int .i64 ((rd_T27 l0 x14_1).f0), .int .u8 ((rd_T27 l0 x14_1).f1), .int .u8 ((rd_T27 l0 x14_1).f2), .int .u8 ((rd_T27 l0 x14_1).f3), .slice A142_4 ((rd_T27 l0 x14_1).f4).length c142_4, .int .u8 0, .int .u8 0]) ?_ 5 _ rfl; (with_reducible repeat (first | refine blk_drewN ?_ _ | refine blk_drew ?_ | refine blk_alloc ?_ _)); refine blk_put (cs := #[.int .i64 ((rd_T27 l0 x14_1).f0), .int .u8 ((rd_T27 l0 x14_1).f1), .int .u8 ((rd_T27 l0 x14_1).f2), .int .u8 ((rd_T27 l0 x14_1).f3), .slice none 0 0, .int .u8 0, .int .u8 0]) ?_ 4 _ rfl; (with_reducible repeat (first | refine blk_drewN ?_ _ | refine blk_drew ?_ | refine blk_alloc ?_ _)); refine blk_put (cs := #[.int .i64 ((rd_T27 l0 x14_1).f0), .int .u8 ((rd_T27 l0 x14_1).f1), .int .u8 ((rd_T27 l0 x14_1).f2), .int .u8 0, .slice none 0 0, .int .u8 0, .int .u8 0]) ?_ 3 _ rfl; (with_reducible repeat (first | refine blk_drewN ?_ _ | refine blk_drew ?_ | refine blk_alloc ?_ _)); refine blk_put (cs := #[.int .i64 ((rd_T27 l0 x14_1).f0), .int .u8 ((rd_T27 l0 x14_1).f1), .int .u8 0, .int .u8 0, .slice none 0 0, .int .u8 0, .int .u8 0]) ?_ 2 _ rfl; (with_reducible repeat (first | refine blk_drewN ?_ _ | refine blk_drew ?_ | refine blk_alloc ?_ _)); refine blk_put (cs := #[.int .i64 ((rd_T27 l0 x14_1).f0), .int .u8 0, .int .u8 0, .int .u8 0, .slice none 0 0, .int .u8 0, .int .u8 0]) ?_ 1 _ rfl; (with_reducible repeat (first | refine blk_drewN ?_ _ | refine blk_drew ?_ | refine blk_alloc ?_ _)); refine blk_put (cs := #[.int .i64 0, .int .u8 0, .int .u8 0, .int .u8 0, .slice none 0 0, .int .u8 0, .int .u8 0]) ?_ 0 _ rfl; (with_reducible repeat (first | refine blk_drewN ?_ _ | refine blk_drew ?_ | refine blk_alloc ?_ _)); exact BK143.out⟩, ⟨by repeat (first | (with_reducible first | exact HB.out | apply below_alloc | apply Go.Proofs.Ytnjbobboookfmaa.Ext.below_bytes | apply pw_below_drewN | apply below_drew1 | refine below_set ?_ GE143.out) | exact HB.out)⟩⟩
                      case round =>
                        clear H'
                        try clear c1
                        try clear p1
                        try clear q1
                        try clear hx1
                        try clear hf1
                        try clear c2
                        try clear c2b0
                        try clear c2b1
                        try clear p2
                        try clear q2
                        try clear hx2
                        try clear hf2
                        try clear c3
                        try clear p3
                        try clear q3
                        try clear hx3
                        try clear hf3
                        try clear c4
                        try clear c5
                        try clear c5b0
                        try clear c6
                        try clear c6b0
                        try clear p6
                        try clear c7
                        try clear c7b0
                        try clear c8
                        try clear c8b0
                        try clear c8b1
                        try clear c12
                        try clear c12b0
                        try clear c13
                        try clear c13b0
                        try clear c14
                        try clear c14b0
                        try clear p14
                        try clear q14
                        try clear hx14
                        try clear p15
                        try clear q15
                        try clear hx15
                        try clear hf15
                        try clear c18
                        try clear c18b0
                        try clear c18b1
                        try clear c20
                        try clear c20b0
                        try clear c21
                        try clear c21b0
                        try clear p22
                        try clear q22
                        try clear hx22
                        try clear hf22
                        try clear c29
                        try clear c29b0
                        try clear c29b1
                        try clear c32
                        try clear c32b0
                        try clear c33
                        try clear c33b0
                        try clear c34
                        try clear c34b0
                        try clear c36
                        try clear c36b0
                        try clear c37
                        try clear c37b0
                        try clear p38
                        try clear q38
                        try clear hx38
                        try clear hf38
                        try clear c42
                        try clear c42b0
                        try clear c42b1
                        try clear hcz10_0
                        try clear hcz10_1
                        try clear hcz10_2
                        try clear hcz10_3
                        try clear hcz10_4
                        try clear hcz10_5
                        try clear hcz10_6
                        try clear hcz24_0
                        try clear hcz24_1
                        try clear hcz24_2
                        try clear hcz24_3
                        try clear hcz24_4
                        try clear hcz24_5
                        try clear hcz24_6
                        try clear hcz26_0
                        try clear hcz26_1
                        try clear hcz26_2
                        try clear hcz26_3
                        try clear hcz26_4
                        try clear hcz26_5
                        try clear hcz26_6
                        try clear hcz31_0
                        try clear hcz31_1
                        try clear hcz31_2
                        try clear hcz31_3
                        try clear hcz31_4
                        try clear hcz31_5
                        try clear hcz31_6
                        try clear hcz39_0
                        try clear hcz39_1
                        try clear hcz39_2
                        try clear hcz39_3
                        try clear hcz39_4
                        try clear hcz39_5
                        try clear hcz39_6
                        try clear hcz44_0
                        try clear hcz44_1
                        try clear hcz44_2
                        try clear hcz44_3
                        try clear hcz44_4
                        try clear hcz44_5
                        try clear hcz44_6
                        try clear hfz10_0
                        try clear hfz10_1
                        try clear hfz10_2
                        try clear hfz10_3
                        try clear hfz10_4
                        try clear hfz10_5
                        try clear hfz10_6
                        try clear hfz24_0
                        try clear hfz24_1
                        try clear hfz24_2
                        try clear hfz24_3
                        try clear hfz24_4
                        try clear hfz24_5
                        try clear hfz24_6
                        try clear hfz26_0
                        try clear hfz26_1
                        try clear hfz26_2
                        try clear hfz26_3
                        try clear hfz26_4
                        try clear hfz26_5
                        try clear hfz26_6
                        try clear hfz31_0
                        try clear hfz31_1
                        try clear hfz31_2
                        try clear hfz31_3
                        try clear hfz31_4
                        try clear hfz31_5
                        try clear hfz31_6
                        try clear hfz39_0
                        try clear hfz39_1
                        try clear hfz39_2
                        try clear hfz39_3
                        try clear hfz39_4
                        try clear hfz39_5
                        try clear hfz39_6
                        try clear hfz44_0
                        try clear hfz44_1
                        try clear hfz44_2
                        try clear hfz44_3
                        try clear hfz44_4
                        try clear hfz44_5
                        try clear hfz44_6
                        try clear hx142_0
                        try clear hx142_1
                        try clear hx142_2
                        try clear hx142_3
                        try clear hx142_4
                        try clear hx142_5
                        try clear hx142_6
                        try clear hx146_0
                        try clear hx15_0
                        try clear hx22_0
                        try clear hx38_0
                        try clear p1
                        try clear p14
                        try clear p142
                        try clear p146
                        try clear p15
                        try clear p2
                        try clear p22
                        try clear p38
                        try clear p6
                        try clear q1
                        try clear q14
                        try clear q142
                        try clear q146
                        try clear q15
                        try clear q2
                        try clear q22
                        try clear q38
                        obtain ⟨x3_2, x10_2, rfl, HA, HK2, HO_3, BK143, HB⟩ := hrel
                        cases gk with
                        | zero => exact absurd HA.out (by simp [spec_TableOf.l3])
                        | succ k2 =>
                          have H := HA.out
                          clear HA
                          simp only [spec_TableOf.l3] at H
                          by_cases c45 : x10_2 ≤ (wrap64 (((rd_T27 l0 x14_1).f3)))
                          · rw [if_pos c45] at H
                            have c45b0 : decide (x10_2 ≤ (wrap64 (((rd_T27 l0 x14_1).f3)))) = true := decide_eq_true c45
                            clear c45
                            obtain ⟨ji46, hji46⟩ : ∃ j_ : Int, (Go.bits .or .i64 (wrap64 ((wrap64 (((rd_T27 l0 x14_1).f1))) * 256)) x10_2) = j_ := ⟨_, rfl⟩
                            replace H : (if 0 ≤ (ji46) then (if (ji46) < (x3_2.length : Int) then (spec_TableOf.l3 k2 (x3_2.set ((ji46) : Int).toNat (Go.bits .or .u8 ((((rd_T27 l0 x14_1).f5) * 16) % 256) ((rd_T27 l0 x14_1).f6))) (Go.bits .or .u8 ((((rd_T27 l0 x14_1).f5) * 16) % 256) ((rd_T27 l0 x14_1).f6)) (wrap64 (x10_2 + 1)) l0 (l0.length : Int) x14_1 ((rd_T27 l0 x14_1).f0) ((rd_T27 l0 x14_1).f1) ((rd_T27 l0 x14_1).f2) ((rd_T27 l0 x14_1).f3) ((rd_T27 l0 x14_1).f4) ((rd_T27 l0 x14_1).f5) ((rd_T27 l0 x14_1).f6)) else (none)) else (none)) = some r := by first | (rw [hji46] at H; exact H) | (simp only [hji46] at H ⊢; exact H)
                            by_cases c47 : 0 ≤ (ji46)
                            · rw [if_pos c47] at H
                              have c47b0 : decide (0 ≤ (ji46)) = true := decide_eq_true c47
                              clear c47
                              by_cases c48 : (ji46) < (x3_2.length : Int)
                              · rw [if_pos c48] at H
                                have c48b0 : decide ((ji46) < (x3_2.length : Int)) = true := decide_eq_true c48
                                (try (have c48b90 := c48b0; simp only [hl142_4] at c48b90))
                                (try (have c48b91 := c48b0; simp only [hl3_2] at c48b91))
                                clear c48
                                obtain ⟨y148, hy148⟩ : ∃ y_ : List Int, y_ = (x3_2.set ((ji46) : Int).toNat (Go.bits .or .u8 ((((rd_T27 l0 x14_1).f5) * 16) % 256) ((rd_T27 l0 x14_1).f6))) := ⟨_, rfl⟩
                                replace H : (spec_TableOf.l3 k2 y148 (Go.bits .or .u8 ((((rd_T27 l0 x14_1).f5) * 16) % 256) ((rd_T27 l0 x14_1).f6)) (wrap64 (x10_2 + 1)) l0 (l0.length : Int) x14_1 ((rd_T27 l0 x14_1).f0) ((rd_T27 l0 x14_1).f1) ((rd_T27 l0 x14_1).f2) ((rd_T27 l0 x14_1).f3) ((rd_T27 l0 x14_1).f4) ((rd_T27 l0 x14_1).f5) ((rd_T27 l0 x14_1).f6)) = some r := by first | (rw [hy148]; with_reducible exact H) | (have H2_ := (Option.bind_some _ _).symm.trans H; rw [hy148]; with_reducible exact H2_) | (have H2_ := (Option.bind_some _ _).symm.trans H; with_reducible exact H2_) | with_reducible exact H | (rw [hy148]; exact H) | exact H
                                have Ny148 := Aside0.mk hy148
                                clear hy148
                                have H' := Aside0.mk H
                                clear H
                                have hcz50_0 : wr.cell? ⟨gb143, 0, none⟩ = some (.int .i64 ((rd_T27 l0 x14_1).f0)) := (blk_cell BK143.out 0).trans rfl
                                have hcz50_1 : wr.cell? ⟨gb143, 1, none⟩ = some (.int .u8 ((rd_T27 l0 x14_1).f1)) := (blk_cell BK143.out 1).trans rfl
                                have hcz50_2 : wr.cell? ⟨gb143, 2, none⟩ = some (.int .u8 ((rd_T27 l0 x14_1).f2)) := (blk_cell BK143.out 2).trans rfl
                                have hcz50_3 : wr.cell? ⟨gb143, 3, none⟩ = some (.int .u8 ((rd_T27 l0 x14_1).f3)) := (blk_cell BK143.out 3).trans rfl
                                have hcz50_4 : wr.cell? ⟨gb143, 4, none⟩ = some (.slice A142_4 ((rd_T27 l0 x14_1).f4).length c142_4) := (blk_cell BK143.out 4).trans rfl
                                have hcz50_5 : wr.cell? ⟨gb143, 5, none⟩ = some (.int .u8 ((rd_T27 l0 x14_1).f5)) := (blk_cell BK143.out 5).trans rfl
                                have hcz50_6 : wr.cell? ⟨gb143, 6, none⟩ = some (.int .u8 ((rd_T27 l0 x14_1).f6)) := (blk_cell BK143.out 6).trans rfl
                                have hfz50_0 := blk_frozen BK143.out 0
                                have hfz50_1 := blk_frozen BK143.out 1
                                have hfz50_2 := blk_frozen BK143.out 2
                                have hfz50_3 := blk_frozen BK143.out 3
                                have hfz50_4 := blk_frozen BK143.out 4
                                have hfz50_5 := blk_frozen BK143.out 5
                                have hfz50_6 := blk_frozen BK143.out 6
                                have p49 : 0 ≤ ((ji46) : Int) := of_decide_eq_true (by first | (with_reducible assumption) | assumption)
                                have q49 : ((ji46) : Int) < ((x3_2.length : Int) : Int) := of_decide_eq_true (by first | (with_reducible assumption) | assumption)
                                obtain ⟨go49, co49, eo49, gb49, gl49, cl49, HG49⟩ := Kd.R_form HO_3.out (by omega)
                                (first | cases eo49 | (injection eo49 with ea_ en_ ec_; (first | subst ea_ | (injection ea_ with ea_; subst ea_)); subst ec_; clear en_))
                                have GB49 := Aside0.mk gb49
                                have GG49 := Aside0.mk HG49
                                clear gb49 gl49 HG49
                                obtain ⟨hx49_0, hf49_0⟩ := Kd.R_celln 0 HO_3.out ((ji46) : Int) p49 q49
                                replace p49 := eq_true p49
                                replace q49 := eq_true q49
                                have HP51 := Kd.R_putg HO_3.out ((ji46) : Int) (Go.bits .or .u8 ((((rd_T27 l0 x14_1).f5) * 16) % 256) ((rd_T27 l0 x14_1).f6))
                                go_wp2_with (first | ((with_reducible refine gate_store (t := 5) (p := 91) rfl ?_); refine store_event (t := 5) (p := 91) (v := ?vo_w52) (w1 := (wr.setCell ⟨go49, ((ji46) : Int).toNat, none⟩ (.int .u8 (Go.bits .or .u8 ((((rd_T27 l0 x14_1).f5) * 16) % 256) ((rd_T27 l0 x14_1).f6))))) ?hg ?ho ?hn ?hr ?_; (case ho => rfl); (case hg => rfl); (case hn => rfl); (case hr => first | (go_simp; done) | (go_simp; rfl)); intro w52 hw; have hg : wr.grownBy w52 (some go49) := (by rw [hw]; exact HP51.2); have hp_ : Kd.R (Kd.int .u8) 5 w52 w.heap.size (fun _ => True) (.slice (some ⟨go49, 0, none⟩) x3_2.length co49) y148 := (by rw [hw, Ny148.out]; exact HP51.1); clear HP51; have n0_ := Aside0.mk (hp_); have n1_ := Aside0.mk (blk_grown (g := gb143) (o := .cells #[.int .i64 ((rd_T27 l0 x14_1).f0), .int .u8 ((rd_T27 l0 x14_1).f1), .int .u8 ((rd_T27 l0 x14_1).f2), .int .u8 ((rd_T27 l0 x14_1).f3), .slice A142_4 ((rd_T27 l0 x14_1).f4).length c142_4, .int .u8 ((rd_T27 l0 x14_1).f5), .int .u8 ((rd_T27 l0 x14_1).f6)] 27 (0, 0)) (by (with_reducible repeat (first | refine blk_drewN ?_ _ | refine blk_drew ?_ | refine blk_alloc ?_ _)); exact BK143.out) hg (Kd.R_ne HO_3.out BK143.out (by decide))); have n2_ := Aside0.mk ((by rw [hw]; exact below_set (HB.out) GB49.out : Below w.heap.size w w52)); clear HO_3; clear BK143; clear HB; have HO_3 := n0_; have BK143 := n1_; have HB := n2_; clear n0_ n1_ n2_; clear hg hw hp_))
                                go_roundg k2
                                case measure => have := HK1.out; have := HK2.out; omega
                                case rel => exact ⟨(y148), (wrap64 (x10_2 + 1)), (by first | rfl | (simp; done) | (simp [*]; done)), H', ⟨by have := HK1.out; have := HK2.out; omega⟩, ⟨by (with_reducible repeat (first | apply Kd.R_alloc | apply Go.Proofs.Ytnjbobboookfmaa.Ext.R_bytes | apply Kd.R_drewN | apply Kd.R_drew)); exact HO_3.out⟩, ⟨by (with_reducible repeat (first | refine blk_drewN ?_ _ | refine blk_drew ?_ | refine blk_alloc ?_ _)); exact BK143.out⟩, ⟨by repeat (first | (with_reducible first | exact HB.out | apply below_alloc | apply Go.Proofs.Ytnjbobboookfmaa.Ext.below_bytes | apply pw_below_drewN | apply below_drew1 | refine below_set ?_ GE143.out) | exact HB.out)⟩⟩
                              · rw [if_neg c48] at H
                                exact absurd H (by simp)
                            · rw [if_neg c47] at H
                              exact absurd H (by simp)
                          · rw [if_neg c45] at H
                            have c45b0 : decide (x10_2 ≤ (wrap64 (((rd_T27 l0 x14_1).f3)))) = false := decide_eq_false c45
                            clear c45
                            have H' := Aside0.mk H
                            clear H
                            have hcz53_0 : wr.cell? ⟨gb143, 0, none⟩ = some (.int .i64 ((rd_T27 l0 x14_1).f0)) := (blk_cell BK143.out 0).trans rfl
                            have hcz53_1 : wr.cell? ⟨gb143, 1, none⟩ = some (.int .u8 ((rd_T27 l0 x14_1).f1)) := (blk_cell BK143.out 1).trans rfl
                            have hcz53_2 : wr.cell? ⟨gb143, 2, none⟩ = some (.int .u8 ((rd_T27 l0 x14_1).f2)) := (blk_cell BK143.out 2).trans rfl
                            have hcz53_3 : wr.cell? ⟨gb143, 3, none⟩ = some (.int .u8 ((rd_T27 l0 x14_1).f3)) := (blk_cell BK143.out 3).trans rfl
                            have hcz53_4 : wr.cell? ⟨gb143, 4, none⟩ = some (.slice A142_4 ((rd_T27 l0 x14_1).f4).length c142_4) := (blk_cell BK143.out 4).trans rfl
                            have hcz53_5 : wr.cell? ⟨gb143, 5, none⟩ = some (.int .u8 ((rd_T27 l0 x14_1).f5)) := (blk_cell BK143.out 5).trans rfl
                            have hcz53_6 : wr.cell? ⟨gb143, 6, none⟩ = some (.int .u8 ((rd_T27 l0 x14_1).f6)) := (blk_cell BK143.out 6).trans rfl
                            have hfz53_0 := blk_frozen BK143.out 0
                            have hfz53_1 := blk_frozen BK143.out 1
                            have hfz53_2 := blk_frozen BK143.out 2
                            have hfz53_3 := blk_frozen BK143.out 3
                            have hfz53_4 := blk_frozen BK143.out 4
                            have hfz53_5 := blk_frozen BK143.out 5
                            have hfz53_6 := blk_frozen BK143.out 6
                            go_wp2
                            go_roundg k2
                            case measure => have := HK1.out; have := HK2.out; omega
                            case rel => exact ⟨(x3_2), (wrap64 (x14_1 + 1)), (by first | rfl | (simp; done) | (simp [*]; done)), H', ⟨by have := HK1.out; have := HK2.out; omega⟩, ⟨by (with_reducible repeat (first | apply Kd.R_alloc | apply Go.Proofs.Ytnjbobboookfmaa.Ext.R_bytes | apply Kd.R_drewN | apply Kd.R_drew)); exact HO_3.out⟩, ⟨by repeat (first | (with_reducible first | exact HB.out | apply below_alloc | apply Go.Proofs.Ytnjbobboookfmaa.Ext.below_bytes | apply pw_below_drewN | apply below_drew1 | refine below_set ?_ GE143.out) | exact HB.out)⟩⟩
                    · rw [if_neg c42] at H
                      have c42b0 : (((rd_T27 l0 x14_1).f0) == 3) = false := beq_eq_false_iff_ne.mpr c42
                      have c42b1 : (((rd_T27 l0 x14_1).f0) != 3) = true := bne_iff_ne.mpr c42
                      have H' := Aside0.mk H
                      clear H
                      have p142 : 0 ≤ (x14_1 : Int) := of_decide_eq_true (by first | (with_reducible assumption) | assumption)
                      have q142 : x14_1 < (l0.length : Int) := of_decide_eq_true (by first | (with_reducible assumption) | assumption)
                      obtain ⟨ad142, A142_4, c142_4, e142, hx142_0, hx142_1, hx142_2, hx142_3, hx142_4, hx142_5, hx142_6, hl142_4, hi142_4⟩ := at_T27 HR0.out x14_1 p142 q142
                      cases e142
                      replace hx142_0 := (HB.out.cell (World.block_lt_of_cell? w _ hx142_0)).trans hx142_0
                      replace hx142_1 := (HB.out.cell (World.block_lt_of_cell? w _ hx142_1)).trans hx142_1
                      replace hx142_2 := (HB.out.cell (World.block_lt_of_cell? w _ hx142_2)).trans hx142_2
                      replace hx142_3 := (HB.out.cell (World.block_lt_of_cell? w _ hx142_3)).trans hx142_3
                      replace hx142_4 := (HB.out.cell (World.block_lt_of_cell? w _ hx142_4)).trans hx142_4
                      replace hx142_5 := (HB.out.cell (World.block_lt_of_cell? w _ hx142_5)).trans hx142_5
                      replace hx142_6 := (HB.out.cell (World.block_lt_of_cell? w _ hx142_6)).trans hx142_6
                      have HR142_4 := Aside0.mk hi142_4
                      have HC142_4 := Aside0.mk hl142_4
                      clear hi142_4 hl142_4
                      replace p142 := eq_true p142
                      replace q142 := eq_true q142
                      go_wp2_with (first | ((with_reducible refine gate_dst (N := 5) rfl ?_); refine box_event ?hg (N := 5) ?hd (cs := #[.int .i64 0, .int .u8 0, .int .u8 0, .int .u8 0, .slice none 0 0, .int .u8 0, .int .u8 0]) (t := 27) ?hr ?_; (case hd => rfl); (case hg => rfl); (case hr => first | (go_simp; done) | (go_simp; rfl)); intro gb143 hg w54 hbox hb; have n0_ := Aside0.mk (Kd.R_below (by (with_reducible repeat (first | apply Kd.R_alloc | apply Go.Proofs.Ytnjbobboookfmaa.Ext.R_bytes | apply Kd.R_drewN | apply Kd.R_drew)); exact HO_3.out) hb); have n1_ := Aside0.mk (below_step (by repeat (first | (with_reducible first | exact HB.out | apply below_alloc | apply Go.Proofs.Ytnjbobboookfmaa.Ext.below_bytes | apply pw_below_drewN | apply below_drew1) | exact HB.out)) hb); have n2_ := Aside0.mk (hbox); have n3_ := Aside0.mk ((by rw [hg]; exact (below_size (by repeat (first | (with_reducible first | exact HB.out | apply below_alloc | apply Go.Proofs.Ytnjbobboookfmaa.Ext.below_bytes | apply pw_below_drewN | apply below_drew1) | exact HB.out))) : w.heap.size ≤ gb143)); have n4_ := Aside0.mk ((by rw [hg]; exact (below_size (by repeat (first | (with_reducible first | exact HB.out | apply below_alloc | apply Go.Proofs.Ytnjbobboookfmaa.Ext.below_bytes | apply pw_below_drewN | apply below_drew1) | exact HB.out))) : w.heap.size ≤ gb143)); clear HO_3; clear HB; have HO_3 := n0_; have HB := n1_; have BK143 := n2_; have GW143 := n3_; have GE143 := n4_; clear n0_ n1_ n2_ n3_ n4_; clear hb hbox hg; have hcz55_0 : w54.cell? ⟨gb143, 0, none⟩ = some (.int .i64 0) := (blk_cell BK143.out 0).trans rfl; have hcz55_1 : w54.cell? ⟨gb143, 1, none⟩ = some (.int .u8 0) := (blk_cell BK143.out 1).trans rfl; have hcz55_2 : w54.cell? ⟨gb143, 2, none⟩ = some (.int .u8 0) := (blk_cell BK143.out 2).trans rfl; have hcz55_3 : w54.cell? ⟨gb143, 3, none⟩ = some (.int .u8 0) := (blk_cell BK143.out 3).trans rfl; have hcz55_4 : w54.cell? ⟨gb143, 4, none⟩ = some (.slice none 0 0) := (blk_cell BK143.out 4).trans rfl; have hcz55_5 : w54.cell? ⟨gb143, 5, none⟩ = some (.int .u8 0) := (blk_cell BK143.out 5).trans rfl; have hcz55_6 : w54.cell? ⟨gb143, 6, none⟩ = some (.int .u8 0) := (blk_cell BK143.out 6).trans rfl; have hfz55_0 := blk_frozen BK143.out 0; have hfz55_1 := blk_frozen BK143.out 1; have hfz55_2 := blk_frozen BK143.out 2; have hfz55_3 := blk_frozen BK143.out 3; have hfz55_4 := blk_frozen BK143.out 4; have hfz55_5 := blk_frozen BK143.out 5; have hfz55_6 := blk_frozen BK143.out 6))
                      go_roundg k1
                      case measure => have := HK1.out; omega
                      case rel => exact ⟨(x3_1), (wrap64 (x14_1 + 1)), (by first | rfl | (simp; done) | (simp [*]; done)), H', ⟨by have := HK1.out; omega⟩, ⟨by (with_reducible repeat (first | apply Kd.R_alloc | apply Go.Proofs.Ytnjbobboookfmaa.Ext.R_bytes | apply Kd.R_drewN | apply Kd.R_drew)); exact Kd.R_mono (Kd.R_far (p := ⟨gb143, 6, none⟩) (Kd.R_far (p := ⟨gb143, 5, none⟩) (Kd.R_far (p := ⟨gb143, 4, none⟩) (Kd.R_far (p := ⟨gb143, 3, none⟩) (Kd.R_far (p := ⟨gb143, 2, none⟩) (Kd.R_far (p := ⟨gb143, 1, none⟩) (Kd.R_far (p := ⟨gb143, 0, none⟩) (Kd.R_types HO_3.out BK143.out (by decide)) (fun _ hk => hk.2) (.int .i64 ((rd_T27 l0 x14_1).f0))) (fun _ hk => hk.2) (.int .u8 ((rd_T27 l0 x14_1).f1))) (fun _ hk => hk.2) (.int .u8 ((rd_T27 l0 x14_1).f2))) (fun _ hk => hk.2) (.int .u8 ((rd_T27 l0 x14_1).f3))) (fun _ hk => hk.2) (.slice A142_4 ((rd_T27 l0 x14_1).f4).length c142_4)) (fun _ hk => hk.2) (.int .u8 ((rd_T27 l0 x14_1).f5))) (fun _ hk => hk.2) (.int .u8 ((rd_T27 l0 x14_1).f6))) (fun _ hk => trivial)⟩, ⟨by repeat (first | (with_reducible first | exact HB.out | apply below_alloc | apply Go.Proofs.Ytnjbobboookfmaa.Ext.below_bytes | apply pw_below_drewN | apply below_drew1 | refine below_set ?_ GE143.out) | exact HB.out)⟩⟩
            · rw [if_neg c7] at H
              exact absurd H (by simp)
          · rw [if_neg c6] at H
            exact absurd H (by simp)
        · rw [if_neg c5] at H
          have c5b0 : decide (x14_1 < (l0.length : Int)) = false := decide_eq_false c5
          (try (have c5b90 := c5b0; simp only [hl142_4] at c5b90))
          (try (have c5b91 := c5b0; simp only [hl3_2] at c5b91))
          clear c5
          obtain rfl := Option.some.inj H
          go_wp2
          go_ret
          exact ⟨_, by first | rfl | (simp [errW_none, errW_some] <;> rfl) | (simp [*, errW_none, errW_some] <;> rfl), by (with_reducible repeat (first | apply Kd.R_alloc | apply Go.Proofs.Ytnjbobboookfmaa.Ext.R_bytes | apply Kd.R_drewN | apply Kd.R_drew)); exact HO_3.out, by repeat (first | (with_reducible first | exact HB.out | apply below_alloc | apply Go.Proofs.Ytnjbobboookfmaa.Ext.below_bytes | apply pw_below_drewN | apply below_drew1) | exact HB.out)⟩
  · rw [if_neg c2] at H
    exact absurd H (by simp)

end Go.Proofs.Ytnjbobboookfmaa.PB
