-- Written by wip/pp.py, a program of this session, out of the translation. Not trusted: Lean checks it.
import Derived.Test.YtnjbobboookfmaaPBx0
import Derived.Test.YtnjbobboookfmaaPBx1
namespace Go.Proofs.Ytnjbobboookfmaa.PB
open Go.RowKit Go.Proofs.Ytnjbobboookfmaa.Or Go.Proofs.YtnjbobboookfmaaW.PrintWords Go.Proofs.YtnjbobboookfmaaW.PrintLast Go.Proofs.YtnjbobboookfmaaW.PrintMore
attribute [local go_sem] max2_int min2_int max_two min_two max_three min_three max_four min_four   -- for this text's walks alone
attribute [local go_sem] Go.Proofs.Ytnjbobboookfmaa.Ext.wrap64_mod256 Go.Proofs.Ytnjbobboookfmaa.Ext.wrap64_mod32 Go.Proofs.Ytnjbobboookfmaa.Ext.i64_mod256 Go.Proofs.Ytnjbobboookfmaa.Ext.i64_mod32 Go.Proofs.Ytnjbobboookfmaa.Ext.i64_u8 Go.Proofs.Ytnjbobboookfmaa.Ext.w64_u8 Go.Proofs.Ytnjbobboookfmaa.Ext.i64_u32 Go.Proofs.Ytnjbobboookfmaa.Ext.w64_u32 
set_option linter.unusedVariables false
set_option linter.unusedSimpArgs false

/-! ### impl_TableRun: function 7 -/
mutual
def impl_TableRun.l0 : Nat → List (S32) → List Int → List (S30) → Int → Int → Option ((List (S39)))
  | 0, _, _, _, _, _ => none
  | k + 1, x1, x5, x14, x15, x16 => if x16 < x15 then (if 0 ≤ x16 then (if x16 < (x14.length : Int) then (if ((rd_T30 x14 x16).f0) = 0 then ((parser_TransitionTable_SetDefault.f k x5 ((rd_T30 x14 x16).f4) ((rd_T30 x14 x16).f5)).bind fun t125 => (impl_TableRun.l0 k x1 t125 x14 x15 (wrap64 (x16 + 1)))) else (if ((rd_T30 x14 x16).f0) = 1 then ((parser_TransitionTable_AddOne.f x5 ((rd_T30 x14 x16).f1) (Int.tmod ((rd_T30 x14 x16).f3) 16) ((rd_T30 x14 x16).f4) ((rd_T30 x14 x16).f5)).bind fun t126 => (impl_TableRun.l0 k x1 t126 x14 x15 (wrap64 (x16 + 1)))) else (if ((rd_T30 x14 x16).f0) = 2 then ((impl_own.f ((rd_T30 x14 x16).f6)).bind fun t127 => ((parser_TransitionTable_AddMany.f k x5 t127 (Int.tmod ((rd_T30 x14 x16).f3) 16) ((rd_T30 x14 x16).f4) ((rd_T30 x14 x16).f5)).bind fun t130 => (impl_TableRun.l0 k x1 t130 x14 x15 (wrap64 (x16 + 1))))) else (if ((rd_T30 x14 x16).f0) = 3 then ((parser_TransitionTable_AddRange.f k x5 ((rd_T30 x14 x16).f1) ((rd_T30 x14 x16).f2) (Int.tmod ((rd_T30 x14 x16).f3) 16) ((rd_T30 x14 x16).f4) ((rd_T30 x14 x16).f5)).bind fun t131 => (impl_TableRun.l0 k x1 t131 x14 x15 (wrap64 (x16 + 1)))) else (impl_TableRun.l0 k x1 x5 x14 x15 (wrap64 (x16 + 1))))))) else (none)) else (none)) else (impl_TableRun.l1 k x5 ([] : List (S39)) x1 (x1.length : Int) 0)
def impl_TableRun.l1 : Nat → List Int → List (S39) → List (S32) → Int → Int → Option ((List (S39)))
  | 0, _, _, _, _, _ => none
  | k + 1, x5, x8, x73, x74, x75 => if x75 < x74 then (if 0 ≤ x75 then (if x75 < (x73.length : Int) then ((parser_TransitionTable_Transition.f x5 (Int.tmod ((rd_T32 x73 x75).f0) 16) ((rd_T32 x73 x75).f1)).bind fun bt134 => (if x8.length < 70368744177664 then (impl_TableRun.l1 k x5 (x8 ++ [(⟨bt134.1, bt134.2⟩ : S39)]) x73 x74 (wrap64 (x75 + 1))) else (none))) else (none)) else (none)) else (some x8)
end
def impl_TableRun.f (k : Nat) (l0 : List (S30)) (l1 : List (S32)) : Option ((List (S39))) := (parser_NewTransitionTable.f 0).bind fun t120 => (impl_TableRun.l0 k l1 t120 l0 (l0.length : Int) 0)
theorem impl_TableRun.mono_l : ∀ k, (∀ y0 y1 y2 y3 y4, LeO (impl_TableRun.l0 k y0 y1 y2 y3 y4) (impl_TableRun.l0 (k + 1) y0 y1 y2 y3 y4)) ∧ (∀ y0 y1 y2 y3 y4, LeO (impl_TableRun.l1 k y0 y1 y2 y3 y4) (impl_TableRun.l1 (k + 1) y0 y1 y2 y3 y4))
  | 0 => ⟨fun _ _ _ _ _ r h => by simp [impl_TableRun.l0] at h, fun _ _ _ _ _ r h => by simp [impl_TableRun.l1] at h⟩
  | k + 1 => by
    obtain ⟨ih0, ih1⟩ := impl_TableRun.mono_l k
    refine ⟨?_, ?_⟩
    · intro y0 y1 y2 y3 y4
      unfold impl_TableRun.l0
      repeat' first
      | (with_reducible exact ih0 _ _ _ _ _)
      | (with_reducible exact ih1 _ _ _ _ _)
      | (with_reducible exact parser_TransitionTable_AddMany.mono _ _ _ _ _ _)
      | (with_reducible exact parser_TransitionTable_AddRange.mono _ _ _ _ _ _ _)
      | (with_reducible exact parser_TransitionTable_SetDefault.mono _ _ _ _)
      | (with_reducible exact LeO.refl _)
      | (with_reducible exact LeO.none _)
      | (with_reducible refine LeO.ite ?_ ?_)
      | (with_reducible refine LeO.bind ?_ (fun _ => ?_))
      | exact ih0 _ _ _ _ _
      | exact ih1 _ _ _ _ _
      | exact parser_TransitionTable_AddMany.mono _ _ _ _ _ _
      | exact parser_TransitionTable_AddRange.mono _ _ _ _ _ _ _
      | exact parser_TransitionTable_SetDefault.mono _ _ _ _
      | exact LeO.none _
      | refine LeO.ite ?_ ?_
      | refine LeO.bind ?_ (fun _ => ?_)
    · intro y0 y1 y2 y3 y4
      unfold impl_TableRun.l1
      repeat' first
      | (with_reducible exact ih0 _ _ _ _ _)
      | (with_reducible exact ih1 _ _ _ _ _)
      | (with_reducible exact parser_TransitionTable_AddMany.mono _ _ _ _ _ _)
      | (with_reducible exact parser_TransitionTable_AddRange.mono _ _ _ _ _ _ _)
      | (with_reducible exact parser_TransitionTable_SetDefault.mono _ _ _ _)
      | (with_reducible exact LeO.refl _)
      | (with_reducible exact LeO.none _)
      | (with_reducible refine LeO.ite ?_ ?_)
      | (with_reducible refine LeO.bind ?_ (fun _ => ?_))
      | exact ih0 _ _ _ _ _
      | exact ih1 _ _ _ _ _
      | exact parser_TransitionTable_AddMany.mono _ _ _ _ _ _
      | exact parser_TransitionTable_AddRange.mono _ _ _ _ _ _ _
      | exact parser_TransitionTable_SetDefault.mono _ _ _ _
      | exact LeO.none _
      | refine LeO.ite ?_ ?_
      | refine LeO.bind ?_ (fun _ => ?_)
theorem impl_TableRun.mono : ∀ a0 a1 k, LeO (impl_TableRun.f k a0 a1) (impl_TableRun.f (k + 1) a0 a1) := by
  intro a0 a1 k
  obtain ⟨ih0, ih1⟩ := impl_TableRun.mono_l k
  unfold impl_TableRun.f
  repeat' first
      | (with_reducible exact ih0 _ _ _ _ _)
      | (with_reducible exact ih1 _ _ _ _ _)
      | (with_reducible exact parser_TransitionTable_AddMany.mono _ _ _ _ _ _)
      | (with_reducible exact parser_TransitionTable_AddRange.mono _ _ _ _ _ _ _)
      | (with_reducible exact parser_TransitionTable_SetDefault.mono _ _ _ _)
      | (with_reducible exact LeO.refl _)
      | (with_reducible exact LeO.none _)
      | (with_reducible refine LeO.ite ?_ ?_)
      | (with_reducible refine LeO.bind ?_ (fun _ => ?_))
      | exact ih0 _ _ _ _ _
      | exact ih1 _ _ _ _ _
      | exact parser_TransitionTable_AddMany.mono _ _ _ _ _ _
      | exact parser_TransitionTable_AddRange.mono _ _ _ _ _ _ _
      | exact parser_TransitionTable_SetDefault.mono _ _ _ _
      | exact LeO.none _
      | refine LeO.ite ?_ ?_
      | refine LeO.bind ?_ (fun _ => ?_)
def impl_TableRun.T11 : Bool × List (List Nat × List Nat) := (true, [([], []), ([], []), ([1], [1]), ([2], [2]), ([], []), ([4], [4]), ([5], [5]), ([], []), ([7], [7]), ([], []), ([9], [9]), ([0, 3, 6, 8, 10, 3], [0, 3, 6, 8, 10])])
def impl_TableRun.B11 : List Nat := [0, 0, 2, 6, 0, 16, 48, 0, 128, 0, 512, 2047]
theorem impl_TableRun.tab11 : rtab .any (opsOf Try.f7 11) = impl_TableRun.T11 := by kernel_rfl
theorem impl_TableRun.bits11 : waitsOk impl_TableRun.T11.2 impl_TableRun.B11 = true := by kernel_rfl
set_option maxHeartbeats 8000000 in
set_option maxRecDepth 100000 in
theorem impl_TableRun.calls (k : Nat) (A0 : Option Addr) (c0 : Nat) (l0 : List (S30)) (A1 : Option Addr) (c1 : Nat) (l1 : List (S32)) (r : List (S39)) (w : World) (hr0 : Kd.C k30 w A0 l0.length l0) (hc0 : l0.length ≤ c0) (hr1 : Kd.C k32 w A1 l1.length l1) (hc1 : l1.length ≤ c1) (h : impl_TableRun.f k l0 l1 = some r) :
    Calls Try.prog 7 #[.slice A0 l0.length c0, .slice A1 l1.length c1] w fun e w' => ∃ v0_ : Value, e = .returned (v0_) ∧ Kd.R k39 39 w' w.heap.size (fun _ => True) v0_ r ∧ Below w.heap.size w w' := by
  have hu30 := Try.underlying30
  have hu32 := Try.underlying32
  have hu39 := Try.underlying39
  have HR0 := Aside0.mk hr0
  have HC0 := Aside0.mk hc0
  clear hr0 hc0
  have HR1 := Aside0.mk hr1
  have HC1 := Aside0.mk hc1
  clear hr1 hc1
  have HB := Aside0.mk (Below.refl w.heap.size w)
  have H : ((parser_NewTransitionTable.f 0).bind fun t120 => (impl_TableRun.l0 k l1 t120 l0 (l0.length : Int) 0)) = some r := h
  clear h
  replace H := Option.bind_eq_some_iff.mp H
  obtain ⟨t120, A30, H⟩ := H
  replace H : (impl_TableRun.l0 k l1 t120 l0 (l0.length : Int) 0) = some r := H
  have A3 := Aside0.mk A30
  clear A30
  have H' := Aside0.mk H
  clear H
  go_enter Try.func7, Try.ntmps7
  go_wp2_with (first | ((with_reducible refine gate_callee (f := 18) rfl ?_); refine goesL_ (some 13) rfl rfl Try.func18 (by kernel_rfl) rfl #[.int .i64 0] rfl (by (try simp only [List.map_toArray, List.map_cons, List.map_nil]); first | done | rfl | (simp only [List.length_drop, List.length_take]; rfl) | (simp [Act.eval, *]; done) | (simp [Act.eval, *]; unfold wrap64; omega)) ?_; (with_reducible refine (parser_NewTransitionTable.calls 0 t120 _ A3.out).mono ?_); rintro e w4 ⟨v121, rfl, ho0, hb⟩; refine ⟨_, rfl, ?_⟩; have n0_ := Aside0.mk (Kd.R_lower ho0 (below_size (by repeat (first | (with_reducible first | exact HB.out | apply below_alloc | apply Go.Proofs.Ytnjbobboookfmaa.Ext.below_bytes | apply pw_below_drewN | apply below_drew1) | exact HB.out)))); have n1_ := Aside0.mk (below_step (by repeat (first | (with_reducible first | exact HB.out | apply below_alloc | apply Go.Proofs.Ytnjbobboookfmaa.Ext.below_bytes | apply pw_below_drewN | apply below_drew1) | exact HB.out)) hb); clear HB; have HO122 := n0_; have HB := n1_; clear n0_ n1_; (try clear hb); (try clear hb2); (try clear hk); (try clear hi); (try clear ho0)))
  go_loopg [16] k (fun kq v16 w' => ∃ (x5_1 : List Int) (x16_1 : Int), v16 = .int .i64 x16_1 ∧ Aside0 (impl_TableRun.l0 kq l1 x5_1 l0 (l0.length : Int) x16_1 = some r) ∧ Aside0 (kq ≤ k) ∧ Aside0 (Kd.R (Kd.int .u8) 5 w' w.heap.size (fun _ => True) v121 x5_1) ∧ Aside0 (Below w.heap.size w w'))
  case atStart => exact ⟨(t120), (0), (by first | rfl | (simp; done) | (simp [*]; done)), H', ⟨Nat.le_refl _⟩, ⟨by (with_reducible repeat (first | apply Kd.R_alloc | apply Go.Proofs.Ytnjbobboookfmaa.Ext.R_bytes | apply Kd.R_drewN | apply Kd.R_drew)); exact HO122.out⟩, ⟨by repeat (first | (with_reducible first | exact HB.out | apply below_alloc | apply Go.Proofs.Ytnjbobboookfmaa.Ext.below_bytes | apply pw_below_drewN | apply below_drew1) | exact HB.out)⟩⟩
  case round =>
    clear H'
    try clear c1
    try clear p2
    obtain ⟨x5_1, x16_1, rfl, HA, HK1, HO_5, HB⟩ := hrel
    cases gk with
    | zero => exact absurd HA.out (by simp [impl_TableRun.l0])
    | succ k1 =>
      have H := HA.out
      clear HA
      simp only [impl_TableRun.l0] at H
      by_cases c5 : x16_1 < (l0.length : Int)
      · rw [if_pos c5] at H
        have c5b0 : decide (x16_1 < (l0.length : Int)) = true := decide_eq_true c5
        (try (have c5b90 := c5b0; simp only [hl123_6] at c5b90))
        clear c5
        by_cases c6 : 0 ≤ x16_1
        · rw [if_pos c6] at H
          have c6b0 : decide (0 ≤ x16_1) = true := decide_eq_true c6
          clear c6
          by_cases c7 : x16_1 < (l0.length : Int)
          · rw [if_pos c7] at H
            have c7b0 : decide (x16_1 < (l0.length : Int)) = true := decide_eq_true c7
            (try (have c7b90 := c7b0; simp only [hl123_6] at c7b90))
            clear c7
            by_cases c8 : ((rd_T30 l0 x16_1).f0) = 0
            · rw [if_pos c8] at H
              have c8b0 : (((rd_T30 l0 x16_1).f0) == 0) = true := beq_iff_eq.mpr c8
              have c8b1 : (((rd_T30 l0 x16_1).f0) != 0) = false := bne_eq_false_iff_eq.mpr c8
              clear c8
              replace H := Option.bind_eq_some_iff.mp H
              obtain ⟨t125, A90, H⟩ := H
              replace H : (impl_TableRun.l0 k1 l1 t125 l0 (l0.length : Int) (wrap64 (x16_1 + 1))) = some r := H
              have A9 := Aside0.mk A90
              clear A90
              have H' := Aside0.mk H
              clear H
              have p123 : 0 ≤ (x16_1 : Int) := of_decide_eq_true (by first | (with_reducible assumption) | assumption)
              have q123 : x16_1 < (l0.length : Int) := of_decide_eq_true (by first | (with_reducible assumption) | assumption)
              obtain ⟨ad123, A123_6, c123_6, e123, hx123_0, hx123_1, hx123_2, hx123_3, hx123_4, hx123_5, hx123_6, hl123_6, hi123_6⟩ := at_T30 HR0.out x16_1 p123 q123
              cases e123
              replace hx123_0 := (HB.out.cell (World.block_lt_of_cell? w _ hx123_0)).trans hx123_0
              replace hx123_1 := (HB.out.cell (World.block_lt_of_cell? w _ hx123_1)).trans hx123_1
              replace hx123_2 := (HB.out.cell (World.block_lt_of_cell? w _ hx123_2)).trans hx123_2
              replace hx123_3 := (HB.out.cell (World.block_lt_of_cell? w _ hx123_3)).trans hx123_3
              replace hx123_4 := (HB.out.cell (World.block_lt_of_cell? w _ hx123_4)).trans hx123_4
              replace hx123_5 := (HB.out.cell (World.block_lt_of_cell? w _ hx123_5)).trans hx123_5
              replace hx123_6 := (HB.out.cell (World.block_lt_of_cell? w _ hx123_6)).trans hx123_6
              have HR123_6 := Aside0.mk hi123_6
              have HC123_6 := Aside0.mk hl123_6
              clear hi123_6 hl123_6
              replace p123 := eq_true p123
              replace q123 := eq_true q123
              go_wp2_with (first | ((with_reducible refine gate_dst (N := 7) rfl ?_); refine box_event ?hg (N := 7) ?hd (cs := #[.int .i64 0, .int .u8 0, .int .u8 0, .int .u8 0, .int .u8 0, .int .u8 0, .slice none 0 0]) (t := 30) ?hr ?_; (case hd => rfl); (case hg => rfl); (case hr => first | (go_simp; done) | (go_simp; rfl)); intro gb124 hg w10 hbox hb; have n0_ := Aside0.mk (Kd.R_below (by (with_reducible repeat (first | apply Kd.R_alloc | apply Go.Proofs.Ytnjbobboookfmaa.Ext.R_bytes | apply Kd.R_drewN | apply Kd.R_drew)); exact HO_5.out) hb); have n1_ := Aside0.mk (below_step (by repeat (first | (with_reducible first | exact HB.out | apply below_alloc | apply Go.Proofs.Ytnjbobboookfmaa.Ext.below_bytes | apply pw_below_drewN | apply below_drew1) | exact HB.out)) hb); have n2_ := Aside0.mk (hbox); have n3_ := Aside0.mk ((by rw [hg]; exact (below_size (by repeat (first | (with_reducible first | exact HB.out | apply below_alloc | apply Go.Proofs.Ytnjbobboookfmaa.Ext.below_bytes | apply pw_below_drewN | apply below_drew1) | exact HB.out))) : w.heap.size ≤ gb124)); have n4_ := Aside0.mk ((by rw [hg]; exact (below_size (by repeat (first | (with_reducible first | exact HB.out | apply below_alloc | apply Go.Proofs.Ytnjbobboookfmaa.Ext.below_bytes | apply pw_below_drewN | apply below_drew1) | exact HB.out))) : w.heap.size ≤ gb124)); clear HO_5; clear HB; have HO_5 := n0_; have HB := n1_; have BK124 := n2_; have GW124 := n3_; have GE124 := n4_; clear n0_ n1_ n2_ n3_ n4_; clear hb hbox hg; have hcz11_0 : w10.cell? ⟨gb124, 0, none⟩ = some (.int .i64 0) := (blk_cell BK124.out 0).trans rfl; have hcz11_1 : w10.cell? ⟨gb124, 1, none⟩ = some (.int .u8 0) := (blk_cell BK124.out 1).trans rfl; have hcz11_2 : w10.cell? ⟨gb124, 2, none⟩ = some (.int .u8 0) := (blk_cell BK124.out 2).trans rfl; have hcz11_3 : w10.cell? ⟨gb124, 3, none⟩ = some (.int .u8 0) := (blk_cell BK124.out 3).trans rfl; have hcz11_4 : w10.cell? ⟨gb124, 4, none⟩ = some (.int .u8 0) := (blk_cell BK124.out 4).trans rfl; have hcz11_5 : w10.cell? ⟨gb124, 5, none⟩ = some (.int .u8 0) := (blk_cell BK124.out 5).trans rfl; have hcz11_6 : w10.cell? ⟨gb124, 6, none⟩ = some (.slice none 0 0) := (blk_cell BK124.out 6).trans rfl; have hfz11_0 := blk_frozen BK124.out 0; have hfz11_1 := blk_frozen BK124.out 1; have hfz11_2 := blk_frozen BK124.out 2; have hfz11_3 := blk_frozen BK124.out 3; have hfz11_4 := blk_frozen BK124.out 4; have hfz11_5 := blk_frozen BK124.out 5; have hfz11_6 := blk_frozen BK124.out 6) | ((with_reducible refine gate_store (t := 30) (p := 7) rfl ?_); refine store_event (t := 30) (p := 7) (v := ?vo_w12) (w1 := (((((((w10.setCell ⟨gb124, 0, none⟩ (.int .i64 ((rd_T30 l0 x16_1).f0))).setCell ⟨gb124, 1, none⟩ (.int .u8 ((rd_T30 l0 x16_1).f1))).setCell ⟨gb124, 2, none⟩ (.int .u8 ((rd_T30 l0 x16_1).f2))).setCell ⟨gb124, 3, none⟩ (.int .u8 ((rd_T30 l0 x16_1).f3))).setCell ⟨gb124, 4, none⟩ (.int .u8 ((rd_T30 l0 x16_1).f4))).setCell ⟨gb124, 5, none⟩ (.int .u8 ((rd_T30 l0 x16_1).f5))).setCell ⟨gb124, 6, none⟩ (.slice A123_6 ((rd_T30 l0 x16_1).f6).length c123_6))) ?hg ?ho ?hn ?hr ?_; (case ho => rfl); (case hg => rfl); (case hn => rfl); (case hr => first | (go_simp; done) | (go_simp; rfl)); intro w12 hw; have n0_ : Aside0 (Kd.R (Kd.int .u8) 5 w12 w.heap.size (fun _ => True) v121 x5_1) := ⟨(by rw [hw]; exact (by (with_reducible repeat (first | apply Kd.R_alloc | apply Go.Proofs.Ytnjbobboookfmaa.Ext.R_bytes | apply Kd.R_drewN | apply Kd.R_drew)); exact Kd.R_mono (Kd.R_far (p := ⟨gb124, 6, none⟩) (Kd.R_far (p := ⟨gb124, 5, none⟩) (Kd.R_far (p := ⟨gb124, 4, none⟩) (Kd.R_far (p := ⟨gb124, 3, none⟩) (Kd.R_far (p := ⟨gb124, 2, none⟩) (Kd.R_far (p := ⟨gb124, 1, none⟩) (Kd.R_far (p := ⟨gb124, 0, none⟩) (Kd.R_types HO_5.out BK124.out (by decide)) (fun _ hk => hk.2) (.int .i64 ((rd_T30 l0 x16_1).f0))) (fun _ hk => hk.2) (.int .u8 ((rd_T30 l0 x16_1).f1))) (fun _ hk => hk.2) (.int .u8 ((rd_T30 l0 x16_1).f2))) (fun _ hk => hk.2) (.int .u8 ((rd_T30 l0 x16_1).f3))) (fun _ hk => hk.2) (.int .u8 ((rd_T30 l0 x16_1).f4))) (fun _ hk => hk.2) (.int .u8 ((rd_T30 l0 x16_1).f5))) (fun _ hk => hk.2) (.slice A123_6 ((rd_T30 l0 x16_1).f6).length c123_6)) (fun _ hk => trivial)))⟩; have n1_ : Aside0 (w12.heap[gb124]? = some (.cells #[.int .i64 ((rd_T30 l0 x16_1).f0), .int .u8 ((rd_T30 l0 x16_1).f1), .int .u8 ((rd_T30 l0 x16_1).f2), .int .u8 ((rd_T30 l0 x16_1).f3), .int .u8 ((rd_T30 l0 x16_1).f4), .int .u8 ((rd_T30 l0 x16_1).f5), .slice A123_6 ((rd_T30 l0 x16_1).f6).length c123_6] 30 (0, 0))) := ⟨(by rw [hw]; exact (by (with_reducible repeat (first | refine blk_drewN ?_ _ | refine blk_drew ?_ | refine blk_alloc ?_ _)); refine blk_put (cs := #[.int .i64 ((rd_T30 l0 x16_1).f0), .int .u8 ((rd_T30 l0 x16_1).f1), .int .u8 ((rd_T30 l0 x16_1).f2), .int .u8 ((rd_T30 l0 x16_1).f3), .int .u8 ((rd_T30 l0 x16_1).f4), .int .u8 ((rd_T30 l0 x16_1).f5), .slice none 0 0]) ?_ 6 _ rfl; (with_reducible repeat (first | refine blk_drewN ?_ _ | refine blk_drew ?_ | refine blk_alloc ?_ _)); refine blk_put (cs := #[.int .i64 ((rd_T30 l0 x16_1).f0), .int .u8 ((rd_T30 l0 x16_1).f1), .int .u8 ((rd_T30 l0 x16_1).f2), .int .u8 ((rd_T30 l0 x16_1).f3), .int .u8 ((rd_T30 l0 x16_1).f4), .int .u8 0, .slice none 0 0]) ?_ 5 _ rfl; (with_reducible repeat (first | refine blk_drewN ?_ _ | refine blk_drew ?_ | refine blk_alloc ?_ _)); refine blk_put (cs := #[.int .i64 ((rd_T30 l0 x16_1).f0), .int .u8 ((rd_T30 l0 x16_1).f1), .int .u8 ((rd_T30 l0 x16_1).f2), .int .u8 ((rd_T30 l0 x16_1).f3), .int .u8 0, .int .u8 0, .slice none 0 0]) ?_ 4 _ rfl; (with_reducible repeat (first | refine blk_drewN ?_ _ | refine blk_drew ?_ | refine blk_alloc ?_ _)); refine blk_put (cs := #[.int .i64 ((rd_T30 l0 x16_1).f0), .int .u8 ((rd_T30 l0 x16_1).f1), .int .u8 ((rd_T30 l0 x16_1).f2), .int .u8 0, .int .u8 0, .int .u8 0, .slice none 0 0]) ?_ 3 _ rfl; (with_reducible repeat (first | refine blk_drewN ?_ _ | refine blk_drew ?_ | refine blk_alloc ?_ _)); refine blk_put (cs := #[.int .i64 ((rd_T30 l0 x16_1).f0), .int .u8 ((rd_T30 l0 x16_1).f1), .int .u8 0, .int .u8 0, .int .u8 0, .int .u8 0, .slice none 0 0]) ?_ 2 _ rfl; (with_reducible repeat (first | refine blk_drewN ?_ _ | refine blk_drew ?_ | refine blk_alloc ?_ _)); refine blk_put (cs := #[.int .i64 ((rd_T30 l0 x16_1).f0), .int .u8 0, .int .u8 0, .int .u8 0, .int .u8 0, .int .u8 0, .slice none 0 0]) ?_ 1 _ rfl; (with_reducible repeat (first | refine blk_drewN ?_ _ | refine blk_drew ?_ | refine blk_alloc ?_ _)); refine blk_put (cs := #[.int .i64 0, .int .u8 0, .int .u8 0, .int .u8 0, .int .u8 0, .int .u8 0, .slice none 0 0]) ?_ 0 _ rfl; (with_reducible repeat (first | refine blk_drewN ?_ _ | refine blk_drew ?_ | refine blk_alloc ?_ _)); exact BK124.out))⟩; have n2_ : Aside0 (Below w.heap.size w w12) := ⟨(by rw [hw]; exact (by repeat (first | (with_reducible first | exact HB.out | apply below_alloc | apply Go.Proofs.Ytnjbobboookfmaa.Ext.below_bytes | apply pw_below_drewN | apply below_drew1 | refine below_set ?_ GE124.out) | exact HB.out)))⟩; clear hw; clear HO_5; clear BK124; clear HB; have HO_5 := n0_; have BK124 := n1_; have HB := n2_; clear n0_ n1_ n2_; have hcz13_0 : w12.cell? ⟨gb124, 0, none⟩ = some (.int .i64 ((rd_T30 l0 x16_1).f0)) := (blk_cell BK124.out 0).trans rfl; have hcz13_1 : w12.cell? ⟨gb124, 1, none⟩ = some (.int .u8 ((rd_T30 l0 x16_1).f1)) := (blk_cell BK124.out 1).trans rfl; have hcz13_2 : w12.cell? ⟨gb124, 2, none⟩ = some (.int .u8 ((rd_T30 l0 x16_1).f2)) := (blk_cell BK124.out 2).trans rfl; have hcz13_3 : w12.cell? ⟨gb124, 3, none⟩ = some (.int .u8 ((rd_T30 l0 x16_1).f3)) := (blk_cell BK124.out 3).trans rfl; have hcz13_4 : w12.cell? ⟨gb124, 4, none⟩ = some (.int .u8 ((rd_T30 l0 x16_1).f4)) := (blk_cell BK124.out 4).trans rfl; have hcz13_5 : w12.cell? ⟨gb124, 5, none⟩ = some (.int .u8 ((rd_T30 l0 x16_1).f5)) := (blk_cell BK124.out 5).trans rfl; have hcz13_6 : w12.cell? ⟨gb124, 6, none⟩ = some (.slice A123_6 ((rd_T30 l0 x16_1).f6).length c123_6) := (blk_cell BK124.out 6).trans rfl; have hfz13_0 := blk_frozen BK124.out 0; have hfz13_1 := blk_frozen BK124.out 1; have hfz13_2 := blk_frozen BK124.out 2; have hfz13_3 := blk_frozen BK124.out 3; have hfz13_4 := blk_frozen BK124.out 4; have hfz13_5 := blk_frozen BK124.out 5; have hfz13_6 := blk_frozen BK124.out 6; obtain ⟨Ao14, co14, eo14⟩ := Kd.R_slice HO_5.out; subst eo14) | ((with_reducible refine gate_callee (f := 19) rfl ?_); refine goesL_ (some 29) rfl rfl Try.func19 (by kernel_rfl) rfl #[.slice Ao14 x5_1.length co14, .int .u8 ((rd_T30 l0 x16_1).f4), .int .u8 ((rd_T30 l0 x16_1).f5)] rfl (by (try simp only [List.map_toArray, List.map_cons, List.map_nil]); first | done | rfl | (simp only [List.length_drop, List.length_take]; rfl) | (simp [Act.eval, *]; done) | (simp [Act.eval, *]; unfold wrap64; omega)) ?_; (with_reducible refine (parser_TransitionTable_SetDefault.calls k1 (fun k_ => some k_ = (.slice Ao14 x5_1.length co14 : Value).ownBlock) (.slice Ao14 x5_1.length co14) x5_1 ((rd_T30 l0 x16_1).f4) ((rd_T30 l0 x16_1).f5) t125 w _ ?side1 ?side2 A9.out).mono ?_); (case side1 => repeat (first | (with_reducible first | exact HB.out | apply below_alloc | apply Go.Proofs.Ytnjbobboookfmaa.Ext.below_bytes | apply pw_below_drewN | apply below_drew1 | refine below_set ?_ GE124.out) | exact HB.out)); (case side2 => exact Kd.R_tight rfl HO_5.out); rintro e w15 ⟨rfl, hy0, hb, hkp⟩; refine ⟨_, rfl, ?_⟩; have n0_ := Aside0.mk (Kd.R_reok rfl hy0 (fun k_ e_ => HO_5.out.1 k_ e_)); have n1_ := Aside0.mk (blk_kept (by (with_reducible repeat (first | refine blk_drewN ?_ _ | refine blk_drew ?_ | refine blk_alloc ?_ _)); exact BK124.out) hkp (fun hs_ => (fun e_ => (Kd.R_ne HO_5.out BK124.out (by decide)) e_) hs_)); have n2_ := Aside0.mk (hb); clear HO_5; clear BK124; clear HB; have HO_5 := n0_; have BK124 := n1_; have HB := n2_; clear n0_ n1_ n2_; (try clear hb); (try clear hkp); (try clear hy0)))
              go_roundg k1
              case measure => have := HK1.out; omega
              case rel => exact ⟨(t125), (wrap64 (x16_1 + 1)), (by first | rfl | (simp; done) | (simp [*]; done)), H', ⟨by have := HK1.out; omega⟩, ⟨by (with_reducible repeat (first | apply Kd.R_alloc | apply Go.Proofs.Ytnjbobboookfmaa.Ext.R_bytes | apply Kd.R_drewN | apply Kd.R_drew)); exact HO_5.out⟩, ⟨by repeat (first | (with_reducible first | exact HB.out | apply below_alloc | apply Go.Proofs.Ytnjbobboookfmaa.Ext.below_bytes | apply pw_below_drewN | apply below_drew1 | refine below_set ?_ GE124.out) | exact HB.out)⟩⟩
            · rw [if_neg c8] at H
              have c8b0 : (((rd_T30 l0 x16_1).f0) == 0) = false := beq_eq_false_iff_ne.mpr c8
              have c8b1 : (((rd_T30 l0 x16_1).f0) != 0) = true := bne_iff_ne.mpr c8
              by_cases c16 : ((rd_T30 l0 x16_1).f0) = 1
              · rw [if_pos c16] at H
                have c16b0 : (((rd_T30 l0 x16_1).f0) == 1) = true := beq_iff_eq.mpr c16
                have c16b1 : (((rd_T30 l0 x16_1).f0) != 1) = false := bne_eq_false_iff_eq.mpr c16
                clear c16
                replace H := Option.bind_eq_some_iff.mp H
                obtain ⟨t126, A170, H⟩ := H
                replace H : (impl_TableRun.l0 k1 l1 t126 l0 (l0.length : Int) (wrap64 (x16_1 + 1))) = some r := H
                have A17 := Aside0.mk A170
                clear A170
                have H' := Aside0.mk H
                clear H
                have p123 : 0 ≤ (x16_1 : Int) := of_decide_eq_true (by first | (with_reducible assumption) | assumption)
                have q123 : x16_1 < (l0.length : Int) := of_decide_eq_true (by first | (with_reducible assumption) | assumption)
                obtain ⟨ad123, A123_6, c123_6, e123, hx123_0, hx123_1, hx123_2, hx123_3, hx123_4, hx123_5, hx123_6, hl123_6, hi123_6⟩ := at_T30 HR0.out x16_1 p123 q123
                cases e123
                replace hx123_0 := (HB.out.cell (World.block_lt_of_cell? w _ hx123_0)).trans hx123_0
                replace hx123_1 := (HB.out.cell (World.block_lt_of_cell? w _ hx123_1)).trans hx123_1
                replace hx123_2 := (HB.out.cell (World.block_lt_of_cell? w _ hx123_2)).trans hx123_2
                replace hx123_3 := (HB.out.cell (World.block_lt_of_cell? w _ hx123_3)).trans hx123_3
                replace hx123_4 := (HB.out.cell (World.block_lt_of_cell? w _ hx123_4)).trans hx123_4
                replace hx123_5 := (HB.out.cell (World.block_lt_of_cell? w _ hx123_5)).trans hx123_5
                replace hx123_6 := (HB.out.cell (World.block_lt_of_cell? w _ hx123_6)).trans hx123_6
                have HR123_6 := Aside0.mk hi123_6
                have HC123_6 := Aside0.mk hl123_6
                clear hi123_6 hl123_6
                replace p123 := eq_true p123
                replace q123 := eq_true q123
                go_wp2_with (first | ((with_reducible refine gate_dst (N := 7) rfl ?_); refine box_event ?hg (N := 7) ?hd (cs := #[.int .i64 0, .int .u8 0, .int .u8 0, .int .u8 0, .int .u8 0, .int .u8 0, .slice none 0 0]) (t := 30) ?hr ?_; (case hd => rfl); (case hg => rfl); (case hr => first | (go_simp; done) | (go_simp; rfl)); intro gb124 hg w18 hbox hb; have n0_ := Aside0.mk (Kd.R_below (by (with_reducible repeat (first | apply Kd.R_alloc | apply Go.Proofs.Ytnjbobboookfmaa.Ext.R_bytes | apply Kd.R_drewN | apply Kd.R_drew)); exact HO_5.out) hb); have n1_ := Aside0.mk (below_step (by repeat (first | (with_reducible first | exact HB.out | apply below_alloc | apply Go.Proofs.Ytnjbobboookfmaa.Ext.below_bytes | apply pw_below_drewN | apply below_drew1) | exact HB.out)) hb); have n2_ := Aside0.mk (hbox); have n3_ := Aside0.mk ((by rw [hg]; exact (below_size (by repeat (first | (with_reducible first | exact HB.out | apply below_alloc | apply Go.Proofs.Ytnjbobboookfmaa.Ext.below_bytes | apply pw_below_drewN | apply below_drew1) | exact HB.out))) : w.heap.size ≤ gb124)); have n4_ := Aside0.mk ((by rw [hg]; exact (below_size (by repeat (first | (with_reducible first | exact HB.out | apply below_alloc | apply Go.Proofs.Ytnjbobboookfmaa.Ext.below_bytes | apply pw_below_drewN | apply below_drew1) | exact HB.out))) : w.heap.size ≤ gb124)); clear HO_5; clear HB; have HO_5 := n0_; have HB := n1_; have BK124 := n2_; have GW124 := n3_; have GE124 := n4_; clear n0_ n1_ n2_ n3_ n4_; clear hb hbox hg; have hcz19_0 : w18.cell? ⟨gb124, 0, none⟩ = some (.int .i64 0) := (blk_cell BK124.out 0).trans rfl; have hcz19_1 : w18.cell? ⟨gb124, 1, none⟩ = some (.int .u8 0) := (blk_cell BK124.out 1).trans rfl; have hcz19_2 : w18.cell? ⟨gb124, 2, none⟩ = some (.int .u8 0) := (blk_cell BK124.out 2).trans rfl; have hcz19_3 : w18.cell? ⟨gb124, 3, none⟩ = some (.int .u8 0) := (blk_cell BK124.out 3).trans rfl; have hcz19_4 : w18.cell? ⟨gb124, 4, none⟩ = some (.int .u8 0) := (blk_cell BK124.out 4).trans rfl; have hcz19_5 : w18.cell? ⟨gb124, 5, none⟩ = some (.int .u8 0) := (blk_cell BK124.out 5).trans rfl; have hcz19_6 : w18.cell? ⟨gb124, 6, none⟩ = some (.slice none 0 0) := (blk_cell BK124.out 6).trans rfl; have hfz19_0 := blk_frozen BK124.out 0; have hfz19_1 := blk_frozen BK124.out 1; have hfz19_2 := blk_frozen BK124.out 2; have hfz19_3 := blk_frozen BK124.out 3; have hfz19_4 := blk_frozen BK124.out 4; have hfz19_5 := blk_frozen BK124.out 5; have hfz19_6 := blk_frozen BK124.out 6) | ((with_reducible refine gate_store (t := 30) (p := 7) rfl ?_); refine store_event (t := 30) (p := 7) (v := ?vo_w20) (w1 := (((((((w18.setCell ⟨gb124, 0, none⟩ (.int .i64 ((rd_T30 l0 x16_1).f0))).setCell ⟨gb124, 1, none⟩ (.int .u8 ((rd_T30 l0 x16_1).f1))).setCell ⟨gb124, 2, none⟩ (.int .u8 ((rd_T30 l0 x16_1).f2))).setCell ⟨gb124, 3, none⟩ (.int .u8 ((rd_T30 l0 x16_1).f3))).setCell ⟨gb124, 4, none⟩ (.int .u8 ((rd_T30 l0 x16_1).f4))).setCell ⟨gb124, 5, none⟩ (.int .u8 ((rd_T30 l0 x16_1).f5))).setCell ⟨gb124, 6, none⟩ (.slice A123_6 ((rd_T30 l0 x16_1).f6).length c123_6))) ?hg ?ho ?hn ?hr ?_; (case ho => rfl); (case hg => rfl); (case hn => rfl); (case hr => first | (go_simp; done) | (go_simp; rfl)); intro w20 hw; have n0_ : Aside0 (Kd.R (Kd.int .u8) 5 w20 w.heap.size (fun _ => True) v121 x5_1) := ⟨(by rw [hw]; exact (by (with_reducible repeat (first | apply Kd.R_alloc | apply Go.Proofs.Ytnjbobboookfmaa.Ext.R_bytes | apply Kd.R_drewN | apply Kd.R_drew)); exact Kd.R_mono (Kd.R_far (p := ⟨gb124, 6, none⟩) (Kd.R_far (p := ⟨gb124, 5, none⟩) (Kd.R_far (p := ⟨gb124, 4, none⟩) (Kd.R_far (p := ⟨gb124, 3, none⟩) (Kd.R_far (p := ⟨gb124, 2, none⟩) (Kd.R_far (p := ⟨gb124, 1, none⟩) (Kd.R_far (p := ⟨gb124, 0, none⟩) (Kd.R_types HO_5.out BK124.out (by decide)) (fun _ hk => hk.2) (.int .i64 ((rd_T30 l0 x16_1).f0))) (fun _ hk => hk.2) (.int .u8 ((rd_T30 l0 x16_1).f1))) (fun _ hk => hk.2) (.int .u8 ((rd_T30 l0 x16_1).f2))) (fun _ hk => hk.2) (.int .u8 ((rd_T30 l0 x16_1).f3))) (fun _ hk => hk.2) (.int .u8 ((rd_T30 l0 x16_1).f4))) (fun _ hk => hk.2) (.int .u8 ((rd_T30 l0 x16_1).f5))) (fun _ hk => hk.2) (.slice A123_6 ((rd_T30 l0 x16_1).f6).length c123_6)) (fun _ hk => trivial)))⟩; have n1_ : Aside0 (w20.heap[gb124]? = some (.cells #[.int .i64 ((rd_T30 l0 x16_1).f0), .int .u8 ((rd_T30 l0 x16_1).f1), .int .u8 ((rd_T30 l0 x16_1).f2), .int .u8 ((rd_T30 l0 x16_1).f3), .int .u8 ((rd_T30 l0 x16_1).f4), .int .u8 ((rd_T30 l0 x16_1).f5), .slice A123_6 ((rd_T30 l0 x16_1).f6).length c123_6] 30 (0, 0))) := ⟨(by rw [hw]; exact (by (with_reducible repeat (first | refine blk_drewN ?_ _ | refine blk_drew ?_ | refine blk_alloc ?_ _)); refine blk_put (cs := #[.int .i64 ((rd_T30 l0 x16_1).f0), .int .u8 ((rd_T30 l0 x16_1).f1), .int .u8 ((rd_T30 l0 x16_1).f2), .int .u8 ((rd_T30 l0 x16_1).f3), .int .u8 ((rd_T30 l0 x16_1).f4), .int .u8 ((rd_T30 l0 x16_1).f5), .slice none 0 0]) ?_ 6 _ rfl; (with_reducible repeat (first | refine blk_drewN ?_ _ | refine blk_drew ?_ | refine blk_alloc ?_ _)); refine blk_put (cs := #[.int .i64 ((rd_T30 l0 x16_1).f0), .int .u8 ((rd_T30 l0 x16_1).f1), .int .u8 ((rd_T30 l0 x16_1).f2), .int .u8 ((rd_T30 l0 x16_1).f3), .int .u8 ((rd_T30 l0 x16_1).f4), .int .u8 0, .slice none 0 0]) ?_ 5 _ rfl; (with_reducible repeat (first | refine blk_drewN ?_ _ | refine blk_drew ?_ | refine blk_alloc ?_ _)); refine blk_put (cs := #[.int .i64 ((rd_T30 l0 x16_1).f0), .int .u8 ((rd_T30 l0 x16_1).f1), .int .u8 ((rd_T30 l0 x16_1).f2), .int .u8 ((rd_T30 l0 x16_1).f3), .int .u8 0, .int .u8 0, .slice none 0 0]) ?_ 4 _ rfl; (with_reducible repeat (first | refine blk_drewN ?_ _ | refine blk_drew ?_ | refine blk_alloc ?_ _)); refine blk_put (cs := #[.int .i64 ((rd_T30 l0 x16_1).f0), .int .u8 ((rd_T30 l0 x16_1).f1), .int .u8 ((rd_T30 l0 x16_1).f2), .int .u8 0, .int .u8 0, .int .u8 0, .slice none 0 0]) ?_ 3 _ rfl; (with_reducible repeat (first | refine blk_drewN ?_ _ | refine blk_drew ?_ | refine blk_alloc ?_ _)); refine blk_put (cs := #[.int .i64 ((rd_T30 l0 x16_1).f0), .int .u8 ((rd_T30 l0 x16_1).f1), .int .u8 0, .int .u8 0, .int .u8 0, .int .u8 0, .slice none 0 0]) ?_ 2 _ rfl; (with_reducible repeat (first | refine blk_drewN ?_ _ | refine blk_drew ?_ | refine blk_alloc ?_ _)); refine blk_put (cs := #[.int .i64 ((rd_T30 l0 x16_1).f0), .int .u8 0, .int .u8 0, .int .u8 0, .int .u8 0, .int .u8 0, .slice none 0 0]) ?_ 1 _ rfl; (with_reducible repeat (first | refine blk_drewN ?_ _ | refine blk_drew ?_ | refine blk_alloc ?_ _)); refine blk_put (cs := #[.int .i64 0, .int .u8 0, .int .u8 0, .int .u8 0, .int .u8 0, .int .u8 0, .slice none 0 0]) ?_ 0 _ rfl; (with_reducible repeat (first | refine blk_drewN ?_ _ | refine blk_drew ?_ | refine blk_alloc ?_ _)); exact BK124.out))⟩; have n2_ : Aside0 (Below w.heap.size w w20) := ⟨(by rw [hw]; exact (by repeat (first | (with_reducible first | exact HB.out | apply below_alloc | apply Go.Proofs.Ytnjbobboookfmaa.Ext.below_bytes | apply pw_below_drewN | apply below_drew1 | refine below_set ?_ GE124.out) | exact HB.out)))⟩; clear hw; clear HO_5; clear BK124; clear HB; have HO_5 := n0_; have BK124 := n1_; have HB := n2_; clear n0_ n1_ n2_; have hcz21_0 : w20.cell? ⟨gb124, 0, none⟩ = some (.int .i64 ((rd_T30 l0 x16_1).f0)) := (blk_cell BK124.out 0).trans rfl; have hcz21_1 : w20.cell? ⟨gb124, 1, none⟩ = some (.int .u8 ((rd_T30 l0 x16_1).f1)) := (blk_cell BK124.out 1).trans rfl; have hcz21_2 : w20.cell? ⟨gb124, 2, none⟩ = some (.int .u8 ((rd_T30 l0 x16_1).f2)) := (blk_cell BK124.out 2).trans rfl; have hcz21_3 : w20.cell? ⟨gb124, 3, none⟩ = some (.int .u8 ((rd_T30 l0 x16_1).f3)) := (blk_cell BK124.out 3).trans rfl; have hcz21_4 : w20.cell? ⟨gb124, 4, none⟩ = some (.int .u8 ((rd_T30 l0 x16_1).f4)) := (blk_cell BK124.out 4).trans rfl; have hcz21_5 : w20.cell? ⟨gb124, 5, none⟩ = some (.int .u8 ((rd_T30 l0 x16_1).f5)) := (blk_cell BK124.out 5).trans rfl; have hcz21_6 : w20.cell? ⟨gb124, 6, none⟩ = some (.slice A123_6 ((rd_T30 l0 x16_1).f6).length c123_6) := (blk_cell BK124.out 6).trans rfl; have hfz21_0 := blk_frozen BK124.out 0; have hfz21_1 := blk_frozen BK124.out 1; have hfz21_2 := blk_frozen BK124.out 2; have hfz21_3 := blk_frozen BK124.out 3; have hfz21_4 := blk_frozen BK124.out 4; have hfz21_5 := blk_frozen BK124.out 5; have hfz21_6 := blk_frozen BK124.out 6; obtain ⟨Ao22, co22, eo22⟩ := Kd.R_slice HO_5.out; subst eo22) | ((with_reducible refine gate_callee (f := 20) rfl ?_); refine goesL_ (some 42) rfl rfl Try.func20 (by kernel_rfl) rfl #[.slice Ao22 x5_1.length co22, .int .u8 ((rd_T30 l0 x16_1).f1), .int .u8 (Int.tmod ((rd_T30 l0 x16_1).f3) 16), .int .u8 ((rd_T30 l0 x16_1).f4), .int .u8 ((rd_T30 l0 x16_1).f5)] rfl (by (try simp only [List.map_toArray, List.map_cons, List.map_nil]); first | done | rfl | (simp only [List.length_drop, List.length_take]; rfl) | (simp [Act.eval, *]; done) | (simp [Act.eval, *]; unfold wrap64; omega)) ?_; (with_reducible refine (parser_TransitionTable_AddOne.calls (fun k_ => some k_ = (.slice Ao22 x5_1.length co22 : Value).ownBlock) (.slice Ao22 x5_1.length co22) x5_1 ((rd_T30 l0 x16_1).f1) (Int.tmod ((rd_T30 l0 x16_1).f3) 16) ((rd_T30 l0 x16_1).f4) ((rd_T30 l0 x16_1).f5) t126 w _ ?side1 ?side2 A17.out).mono ?_); (case side1 => repeat (first | (with_reducible first | exact HB.out | apply below_alloc | apply Go.Proofs.Ytnjbobboookfmaa.Ext.below_bytes | apply pw_below_drewN | apply below_drew1 | refine below_set ?_ GE124.out) | exact HB.out)); (case side2 => exact Kd.R_tight rfl HO_5.out); rintro e w23 ⟨rfl, hy0, hb, hkp⟩; refine ⟨_, rfl, ?_⟩; have n0_ := Aside0.mk (Kd.R_reok rfl hy0 (fun k_ e_ => HO_5.out.1 k_ e_)); have n1_ := Aside0.mk (blk_kept (by (with_reducible repeat (first | refine blk_drewN ?_ _ | refine blk_drew ?_ | refine blk_alloc ?_ _)); exact BK124.out) hkp (fun hs_ => (fun e_ => (Kd.R_ne HO_5.out BK124.out (by decide)) e_) hs_)); have n2_ := Aside0.mk (hb); clear HO_5; clear BK124; clear HB; have HO_5 := n0_; have BK124 := n1_; have HB := n2_; clear n0_ n1_ n2_; (try clear hb); (try clear hkp); (try clear hy0)))
                go_roundg k1
                case measure => have := HK1.out; omega
                case rel => exact ⟨(t126), (wrap64 (x16_1 + 1)), (by first | rfl | (simp; done) | (simp [*]; done)), H', ⟨by have := HK1.out; omega⟩, ⟨by (with_reducible repeat (first | apply Kd.R_alloc | apply Go.Proofs.Ytnjbobboookfmaa.Ext.R_bytes | apply Kd.R_drewN | apply Kd.R_drew)); exact HO_5.out⟩, ⟨by repeat (first | (with_reducible first | exact HB.out | apply below_alloc | apply Go.Proofs.Ytnjbobboookfmaa.Ext.below_bytes | apply pw_below_drewN | apply below_drew1 | refine below_set ?_ GE124.out) | exact HB.out)⟩⟩
              · rw [if_neg c16] at H
                have c16b0 : (((rd_T30 l0 x16_1).f0) == 1) = false := beq_eq_false_iff_ne.mpr c16
                have c16b1 : (((rd_T30 l0 x16_1).f0) != 1) = true := bne_iff_ne.mpr c16
                by_cases c24 : ((rd_T30 l0 x16_1).f0) = 2
                · rw [if_pos c24] at H
                  have c24b0 : (((rd_T30 l0 x16_1).f0) == 2) = true := beq_iff_eq.mpr c24
                  have c24b1 : (((rd_T30 l0 x16_1).f0) != 2) = false := bne_eq_false_iff_eq.mpr c24
                  clear c24
                  replace H := Option.bind_eq_some_iff.mp H
                  obtain ⟨t127, A250, H⟩ := H
                  replace H : ((parser_TransitionTable_AddMany.f k1 x5_1 t127 (Int.tmod ((rd_T30 l0 x16_1).f3) 16) ((rd_T30 l0 x16_1).f4) ((rd_T30 l0 x16_1).f5)).bind fun t130 => (impl_TableRun.l0 k1 l1 t130 l0 (l0.length : Int) (wrap64 (x16_1 + 1)))) = some r := H
                  have A25 := Aside0.mk A250
                  clear A250
                  replace H := Option.bind_eq_some_iff.mp H
                  obtain ⟨t130, A260, H⟩ := H
                  replace H : (impl_TableRun.l0 k1 l1 t130 l0 (l0.length : Int) (wrap64 (x16_1 + 1))) = some r := H
                  have A26 := Aside0.mk A260
                  clear A260
                  have H' := Aside0.mk H
                  clear H
                  have p123 : 0 ≤ (x16_1 : Int) := of_decide_eq_true (by first | (with_reducible assumption) | assumption)
                  have q123 : x16_1 < (l0.length : Int) := of_decide_eq_true (by first | (with_reducible assumption) | assumption)
                  obtain ⟨ad123, A123_6, c123_6, e123, hx123_0, hx123_1, hx123_2, hx123_3, hx123_4, hx123_5, hx123_6, hl123_6, hi123_6⟩ := at_T30 HR0.out x16_1 p123 q123
                  cases e123
                  replace hx123_0 := (HB.out.cell (World.block_lt_of_cell? w _ hx123_0)).trans hx123_0
                  replace hx123_1 := (HB.out.cell (World.block_lt_of_cell? w _ hx123_1)).trans hx123_1
                  replace hx123_2 := (HB.out.cell (World.block_lt_of_cell? w _ hx123_2)).trans hx123_2
                  replace hx123_3 := (HB.out.cell (World.block_lt_of_cell? w _ hx123_3)).trans hx123_3
                  replace hx123_4 := (HB.out.cell (World.block_lt_of_cell? w _ hx123_4)).trans hx123_4
                  replace hx123_5 := (HB.out.cell (World.block_lt_of_cell? w _ hx123_5)).trans hx123_5
                  replace hx123_6 := (HB.out.cell (World.block_lt_of_cell? w _ hx123_6)).trans hx123_6
                  have HR123_6 := Aside0.mk hi123_6
                  have HC123_6 := Aside0.mk hl123_6
                  clear hi123_6 hl123_6
                  replace p123 := eq_true p123
                  replace q123 := eq_true q123
                  try go_wp2_with (first | ((with_reducible refine gate_dst (N := 7) rfl ?_); refine box_event ?hg (N := 7) ?hd (cs := #[.int .i64 0, .int .u8 0, .int .u8 0, .int .u8 0, .int .u8 0, .int .u8 0, .slice none 0 0]) (t := 30) ?hr ?_; (case hd => rfl); (case hg => rfl); (case hr => first | (go_simp; done) | (go_simp; rfl)); intro gb124 hg w27 hbox hb; have n0_ := Aside0.mk (Kd.R_below (by (with_reducible repeat (first | apply Kd.R_alloc | apply Go.Proofs.Ytnjbobboookfmaa.Ext.R_bytes | apply Kd.R_drewN | apply Kd.R_drew)); exact HO_5.out) hb); have n1_ := Aside0.mk (below_step (by repeat (first | (with_reducible first | exact HB.out | apply below_alloc | apply Go.Proofs.Ytnjbobboookfmaa.Ext.below_bytes | apply pw_below_drewN | apply below_drew1) | exact HB.out)) hb); have n2_ := Aside0.mk (hbox); have n3_ := Aside0.mk ((by rw [hg]; exact (below_size (by repeat (first | (with_reducible first | exact HB.out | apply below_alloc | apply Go.Proofs.Ytnjbobboookfmaa.Ext.below_bytes | apply pw_below_drewN | apply below_drew1) | exact HB.out))) : w.heap.size ≤ gb124)); have n4_ := Aside0.mk ((by rw [hg]; exact (below_size (by repeat (first | (with_reducible first | exact HB.out | apply below_alloc | apply Go.Proofs.Ytnjbobboookfmaa.Ext.below_bytes | apply pw_below_drewN | apply below_drew1) | exact HB.out))) : w.heap.size ≤ gb124)); clear HO_5; clear HB; have HO_5 := n0_; have HB := n1_; have BK124 := n2_; have GW124 := n3_; have GE124 := n4_; clear n0_ n1_ n2_ n3_ n4_; clear hb hbox hg; have hcz28_0 : w27.cell? ⟨gb124, 0, none⟩ = some (.int .i64 0) := (blk_cell BK124.out 0).trans rfl; have hcz28_1 : w27.cell? ⟨gb124, 1, none⟩ = some (.int .u8 0) := (blk_cell BK124.out 1).trans rfl; have hcz28_2 : w27.cell? ⟨gb124, 2, none⟩ = some (.int .u8 0) := (blk_cell BK124.out 2).trans rfl; have hcz28_3 : w27.cell? ⟨gb124, 3, none⟩ = some (.int .u8 0) := (blk_cell BK124.out 3).trans rfl; have hcz28_4 : w27.cell? ⟨gb124, 4, none⟩ = some (.int .u8 0) := (blk_cell BK124.out 4).trans rfl; have hcz28_5 : w27.cell? ⟨gb124, 5, none⟩ = some (.int .u8 0) := (blk_cell BK124.out 5).trans rfl; have hcz28_6 : w27.cell? ⟨gb124, 6, none⟩ = some (.slice none 0 0) := (blk_cell BK124.out 6).trans rfl; have hfz28_0 := blk_frozen BK124.out 0; have hfz28_1 := blk_frozen BK124.out 1; have hfz28_2 := blk_frozen BK124.out 2; have hfz28_3 := blk_frozen BK124.out 3; have hfz28_4 := blk_frozen BK124.out 4; have hfz28_5 := blk_frozen BK124.out 5; have hfz28_6 := blk_frozen BK124.out 6))
                  have n0_ : Aside0 (Kd.R (Kd.int .u8) 5 (((((((w27.setCell ⟨gb124, 0, none⟩ (.int .i64 ((rd_T30 l0 x16_1).f0))).setCell ⟨gb124, 1, none⟩ (.int .u8 ((rd_T30 l0 x16_1).f1))).setCell ⟨gb124, 2, none⟩ (.int .u8 ((rd_T30 l0 x16_1).f2))).setCell ⟨gb124, 3, none⟩ (.int .u8 ((rd_T30 l0 x16_1).f3))).setCell ⟨gb124, 4, none⟩ (.int .u8 ((rd_T30 l0 x16_1).f4))).setCell ⟨gb124, 5, none⟩ (.int .u8 ((rd_T30 l0 x16_1).f5))).setCell ⟨gb124, 6, none⟩ (.slice A123_6 ((rd_T30 l0 x16_1).f6).length c123_6)) w.heap.size (fun _ => True) v121 x5_1) := ⟨by (with_reducible repeat (first | apply Kd.R_alloc | apply Go.Proofs.Ytnjbobboookfmaa.Ext.R_bytes | apply Kd.R_drewN | apply Kd.R_drew)); exact Kd.R_mono (Kd.R_far (p := ⟨gb124, 6, none⟩) (Kd.R_far (p := ⟨gb124, 5, none⟩) (Kd.R_far (p := ⟨gb124, 4, none⟩) (Kd.R_far (p := ⟨gb124, 3, none⟩) (Kd.R_far (p := ⟨gb124, 2, none⟩) (Kd.R_far (p := ⟨gb124, 1, none⟩) (Kd.R_far (p := ⟨gb124, 0, none⟩) (Kd.R_types HO_5.out BK124.out (by decide)) (fun _ hk => hk.2) (.int .i64 ((rd_T30 l0 x16_1).f0))) (fun _ hk => hk.2) (.int .u8 ((rd_T30 l0 x16_1).f1))) (fun _ hk => hk.2) (.int .u8 ((rd_T30 l0 x16_1).f2))) (fun _ hk => hk.2) (.int .u8 ((rd_T30 l0 x16_1).f3))) (fun _ hk => hk.2) (.int .u8 ((rd_T30 l0 x16_1).f4))) (fun _ hk => hk.2) (.int .u8 ((rd_T30 l0 x16_1).f5))) (fun _ hk => hk.2) (.slice A123_6 ((rd_T30 l0 x16_1).f6).length c123_6)) (fun _ hk => trivial)⟩
                  have n1_ : Aside0 ((((((((w27.setCell ⟨gb124, 0, none⟩ (.int .i64 ((rd_T30 l0 x16_1).f0))).setCell ⟨gb124, 1, none⟩ (.int .u8 ((rd_T30 l0 x16_1).f1))).setCell ⟨gb124, 2, none⟩ (.int .u8 ((rd_T30 l0 x16_1).f2))).setCell ⟨gb124, 3, none⟩ (.int .u8 ((rd_T30 l0 x16_1).f3))).setCell ⟨gb124, 4, none⟩ (.int .u8 ((rd_T30 l0 x16_1).f4))).setCell ⟨gb124, 5, none⟩ (.int .u8 ((rd_T30 l0 x16_1).f5))).setCell ⟨gb124, 6, none⟩ (.slice A123_6 ((rd_T30 l0 x16_1).f6).length c123_6)).heap[gb124]? = some (.cells #[.int .i64 ((rd_T30 l0 x16_1).f0), .int .u8 ((rd_T30 l0 x16_1).f1), .int .u8 ((rd_T30 l0 x16_1).f2), .int .u8 ((rd_T30 l0 x16_1).f3), .int .u8 ((rd_T30 l0 x16_1).f4), .int .u8 ((rd_T30 l0 x16_1).f5), .slice A123_6 ((rd_T30 l0 x16_1).f6).length c123_6] 30 (0, 0))) := ⟨by (with_reducible repeat (first | refine blk_drewN ?_ _ | refine blk_drew ?_ | refine blk_alloc ?_ _)); refine blk_put (cs := #[.int .i64 ((rd_T30 l0 x16_1).f0), .int .u8 ((rd_T30 l0 x16_1).f1), .int .u8 ((rd_T30 l0 x16_1).f2), .int .u8 ((rd_T30 l0 x16_1).f3), .int .u8 ((rd_T30 l0 x16_1).f4), .int .u8 ((rd_T30 l0 x16_1).f5), .slice none 0 0]) ?_ 6 _ rfl; (with_reducible repeat (first | refine blk_drewN ?_ _ | refine blk_drew ?_ | refine blk_alloc ?_ _)); refine blk_put (cs := #[.int .i64 ((rd_T30 l0 x16_1).f0), .int .u8 ((rd_T30 l0 x16_1).f1), .int .u8 ((rd_T30 l0 x16_1).f2), .int .u8 ((rd_T30 l0 x16_1).f3), .int .u8 ((rd_T30 l0 x16_1).f4), .int .u8 0, .slice none 0 0]) ?_ 5 _ rfl; (with_reducible repeat (first | refine blk_drewN ?_ _ | refine blk_drew ?_ | refine blk_alloc ?_ _)); refine blk_put (cs := #[.int .i64 ((rd_T30 l0 x16_1).f0), .int .u8 ((rd_T30 l0 x16_1).f1), .int .u8 ((rd_T30 l0 x16_1).f2), .int .u8 ((rd_T30 l0 x16_1).f3), .int .u8 0, .int .u8 0, .slice none 0 0]) ?_ 4 _ rfl; (with_reducible repeat (first | refine blk_drewN ?_ _ | refine blk_drew ?_ | refine blk_alloc ?_ _)); refine blk_put (cs := #[.int .i64 ((rd_T30 l0 x16_1).f0), .int .u8 ((rd_T30 l0 x16_1).f1), .int .u8 ((rd_T30 l0 x16_1).f2), .int .u8 0, .int .u8 0, .int .u8 0, .slice none 0 0]) ?_ 3 _ rfl; (with_reducible repeat (first | refine blk_drewN ?_ _ | refine blk_drew ?_ | refine blk_alloc ?_ _)); refine blk_put (cs := #[.int .i64 ((rd_T30 l0 x16_1).f0), .int .u8 ((rd_T30 l0 x16_1).f1), .int .u8 0, .int .u8 0, .int .u8 0, .int .u8 0, .slice none 0 0]) ?_ 2 _ rfl; (with_reducible repeat (first | refine blk_drewN ?_ _ | refine blk_drew ?_ | refine blk_alloc ?_ _)); refine blk_put (cs := #[.int .i64 ((rd_T30 l0 x16_1).f0), .int .u8 0, .int .u8 0, .int .u8 0, .int .u8 0, .int .u8 0, .slice none 0 0]) ?_ 1 _ rfl; (with_reducible repeat (first | refine blk_drewN ?_ _ | refine blk_drew ?_ | refine blk_alloc ?_ _)); refine blk_put (cs := #[.int .i64 0, .int .u8 0, .int .u8 0, .int .u8 0, .int .u8 0, .int .u8 0, .slice none 0 0]) ?_ 0 _ rfl; (with_reducible repeat (first | refine blk_drewN ?_ _ | refine blk_drew ?_ | refine blk_alloc ?_ _)); exact BK124.out⟩
                  have n2_ : Aside0 (Below w.heap.size w (((((((w27.setCell ⟨gb124, 0, none⟩ (.int .i64 ((rd_T30 l0 x16_1).f0))).setCell ⟨gb124, 1, none⟩ (.int .u8 ((rd_T30 l0 x16_1).f1))).setCell ⟨gb124, 2, none⟩ (.int .u8 ((rd_T30 l0 x16_1).f2))).setCell ⟨gb124, 3, none⟩ (.int .u8 ((rd_T30 l0 x16_1).f3))).setCell ⟨gb124, 4, none⟩ (.int .u8 ((rd_T30 l0 x16_1).f4))).setCell ⟨gb124, 5, none⟩ (.int .u8 ((rd_T30 l0 x16_1).f5))).setCell ⟨gb124, 6, none⟩ (.slice A123_6 ((rd_T30 l0 x16_1).f6).length c123_6))) := ⟨by repeat (first | (with_reducible first | exact HB.out | apply below_alloc | apply Go.Proofs.Ytnjbobboookfmaa.Ext.below_bytes | apply pw_below_drewN | apply below_drew1 | refine below_set ?_ GE124.out) | exact HB.out)⟩
                  (try clear HO_5)
                  (try clear BK124)
                  (try clear HB)
                  generalize (((((((w27.setCell ⟨gb124, 0, none⟩ (.int .i64 ((rd_T30 l0 x16_1).f0))).setCell ⟨gb124, 1, none⟩ (.int .u8 ((rd_T30 l0 x16_1).f1))).setCell ⟨gb124, 2, none⟩ (.int .u8 ((rd_T30 l0 x16_1).f2))).setCell ⟨gb124, 3, none⟩ (.int .u8 ((rd_T30 l0 x16_1).f3))).setCell ⟨gb124, 4, none⟩ (.int .u8 ((rd_T30 l0 x16_1).f4))).setCell ⟨gb124, 5, none⟩ (.int .u8 ((rd_T30 l0 x16_1).f5))).setCell ⟨gb124, 6, none⟩ (.slice A123_6 ((rd_T30 l0 x16_1).f6).length c123_6)) = w29 at n0_ n1_ n2_ ⊢
                  have HO_5 := n0_
                  have BK124 := n1_
                  have HB := n2_
                  clear n0_ n1_ n2_
                  have n0_ := Aside0.mk (Kd.R_drew HO_5.out)
                  have n1_ := Aside0.mk (blk_drew BK124.out)
                  have n2_ := Aside0.mk (below_drew1 HB.out)
                  clear HO_5
                  clear BK124
                  clear HB
                  have HO_5 := n0_
                  have BK124 := n1_
                  have HB := n2_
                  clear n0_ n1_ n2_
                  refine start_ (n := 12) (S := fun w' => w'.cell? ⟨gb124, 0, none⟩ = some (.int .i64 ((rd_T30 l0 x16_1).f0)) ∧ w'.cell? ⟨gb124, 1, none⟩ = some (.int .u8 ((rd_T30 l0 x16_1).f1)) ∧ w'.cell? ⟨gb124, 2, none⟩ = some (.int .u8 ((rd_T30 l0 x16_1).f2)) ∧ w'.cell? ⟨gb124, 3, none⟩ = some (.int .u8 ((rd_T30 l0 x16_1).f3)) ∧ w'.cell? ⟨gb124, 4, none⟩ = some (.int .u8 ((rd_T30 l0 x16_1).f4)) ∧ w'.cell? ⟨gb124, 5, none⟩ = some (.int .u8 ((rd_T30 l0 x16_1).f5)) ∧ w'.cell? ⟨gb124, 6, none⟩ = some (.slice A123_6 ((rd_T30 l0 x16_1).f6).length c123_6)) (ds := []) #[false, false, false, false, false, false, false, false, false, false, false, false] (by kernel_rfl) rfl rfl ⟨(blk_cell BK124.out 0).trans rfl, (blk_cell BK124.out 1).trans rfl, (blk_cell BK124.out 2).trans rfl, (blk_cell BK124.out 3).trans rfl, (blk_cell BK124.out 4).trans rfl, (blk_cell BK124.out 5).trans rfl, (blk_cell BK124.out 6).trans rfl⟩ (fun hHeld => ?_); refine with_tabW impl_TableRun.tab11 impl_TableRun.bits11 (fun HT_ HW_ => ?_)
                  generalize w29.drew = w30 at HO_5 BK124 HB hHeld ⊢
                  refine pure_ (i := 0) (N := some 45) (v := ?_) (a' := ?_) #[true, false, false, false, false, false, false, false, false, false, false, false] rfl rfl (any_of HT_.out (by kernel_rfl)) (fun _ _ _ h => h) (Or.inl ⟨by rfl, ?_⟩) ?_ ?_
                  rotate_left
                  · intro w'
                    go_simp
                    with_reducible rfl
                  rotate_left
                  · simp only [Act.put, List.setIfInBounds_toArray, List.set_cons_zero, List.set_cons_succ, i64_w, i32_w]
                    rfl
                  refine pure_ (i := 1) (N := some 46) (v := ?_) (a' := ?_) #[true, true, false, false, false, false, false, false, false, false, false, false] rfl rfl (any_of HT_.out (by kernel_rfl)) (fun _ _ _ h => h) (Or.inl ⟨by rfl, ?_⟩) ?_ ?_
                  rotate_left
                  · intro w'
                    go_simp
                    with_reducible rfl
                  rotate_left
                  · simp only [Act.put, List.setIfInBounds_toArray, List.set_cons_zero, List.set_cons_succ, i64_w, i32_w]
                    rfl
                  refine pure_ (i := 4) (N := some 49) (v := ?_) (a' := ?_) #[true, true, false, false, true, false, false, false, false, false, false, false] rfl rfl (any_of HT_.out (by kernel_rfl)) (fun _ _ _ h => h) (Or.inl ⟨by rfl, ?_⟩) ?_ ?_
                  rotate_left
                  · intro w'
                    go_simp
                    with_reducible rfl
                  rotate_left
                  · simp only [Act.put, List.setIfInBounds_toArray, List.set_cons_zero, List.set_cons_succ, i64_w, i32_w]
                    rfl
                  refine pure_ (i := 7) (N := some 52) (v := ?_) (a' := ?_) #[true, true, false, false, true, false, false, true, false, false, false, false] rfl rfl (any_of HT_.out (by kernel_rfl)) (fun _ _ _ h => h) (Or.inl ⟨by rfl, ?_⟩) ?_ ?_
                  rotate_left
                  · intro w'
                    go_simp
                    with_reducible rfl
                  rotate_left
                  · simp only [Act.put, List.setIfInBounds_toArray, List.set_cons_zero, List.set_cons_succ, i64_w, i32_w]
                    rfl
                  refine pure_ (i := 9) (N := some 54) (v := ?_) (a' := ?_) #[true, true, false, false, true, false, false, true, false, true, false, false] rfl rfl (any_of HT_.out (by kernel_rfl)) (fun _ _ _ h => h) (Or.inl ⟨by rfl, ?_⟩) ?_ ?_
                  rotate_left
                  · intro w'
                    go_simp
                    with_reducible rfl
                  rotate_left
                  · simp only [Act.put, List.setIfInBounds_toArray, List.set_cons_zero, List.set_cons_succ, i64_w, i32_w]
                    rfl
                  refine take_ (i := 2) (N := some 47) (v := ?_) (a' := ?_) #[true, true, true, false, true, false, false, true, false, true, false, false] rfl rfl (take_ofW HT_.out HW_.out (by kernel_rfl)) (fun _ _ _ h => h) (Or.inl ⟨by rfl, ?_⟩) hHeld ?_ ?_
                  rotate_left
                  · rintro w' ⟨s0, s1, s2, s3, s4, s5, s6⟩
                    go_simp
                    with_reducible rfl
                  rotate_left
                  · simp only [Act.put, List.setIfInBounds_toArray, List.set_cons_zero, List.set_cons_succ, i64_w, i32_w]
                    rfl
                  refine take_ (i := 5) (N := some 50) (v := ?_) (a' := ?_) #[true, true, true, false, true, true, false, true, false, true, false, false] rfl rfl (take_ofW HT_.out HW_.out (by kernel_rfl)) (fun _ _ _ h => h) (Or.inl ⟨by rfl, ?_⟩) hHeld ?_ ?_
                  rotate_left
                  · rintro w' ⟨s0, s1, s2, s3, s4, s5, s6⟩
                    go_simp
                    with_reducible rfl
                  rotate_left
                  · simp only [Act.put, List.setIfInBounds_toArray, List.set_cons_zero, List.set_cons_succ, i64_w, i32_w]
                    rfl
                  refine pure_ (i := 6) (N := some 51) (v := ?_) (a' := ?_) #[true, true, true, false, true, true, true, true, false, true, false, false] rfl rfl (any_of HT_.out (by kernel_rfl)) (fun _ _ _ h => h) (Or.inl ⟨by rfl, ?_⟩) ?_ ?_
                  rotate_left
                  · intro w'
                    go_simp
                    with_reducible rfl
                  rotate_left
                  · simp only [Act.put, List.setIfInBounds_toArray, List.set_cons_zero, List.set_cons_succ, i64_w, i32_w]
                    rfl
                  refine take_ (i := 8) (N := some 53) (v := ?_) (a' := ?_) #[true, true, true, false, true, true, true, true, true, true, false, false] rfl rfl (take_ofW HT_.out HW_.out (by kernel_rfl)) (fun _ _ _ h => h) (Or.inl ⟨by rfl, ?_⟩) hHeld ?_ ?_
                  rotate_left
                  · rintro w' ⟨s0, s1, s2, s3, s4, s5, s6⟩
                    go_simp
                    with_reducible rfl
                  rotate_left
                  · simp only [Act.put, List.setIfInBounds_toArray, List.set_cons_zero, List.set_cons_succ, i64_w, i32_w]
                    rfl
                  refine take_ (i := 10) (N := some 55) (v := ?_) (a' := ?_) #[true, true, true, false, true, true, true, true, true, true, true, false] rfl rfl (take_ofW HT_.out HW_.out (by kernel_rfl)) (fun _ _ _ h => h) (Or.inl ⟨by rfl, ?_⟩) hHeld ?_ ?_
                  rotate_left
                  · rintro w' ⟨s0, s1, s2, s3, s4, s5, s6⟩
                    go_simp
                    with_reducible rfl
                  rotate_left
                  · simp only [Act.put, List.setIfInBounds_toArray, List.set_cons_zero, List.set_cons_succ, i64_w, i32_w]
                    rfl
                  refine one_ (i := 3) (N := some 48) #[true, true, true, true, true, true, true, true, true, true, true, false] rfl rfl (one_of HT_.out (by kernel_rfl)) (by decide) (fun K hK => ?_)
                  refine goes_ Try.func22 (by kernel_rfl) rfl #[.slice A123_6 ((rd_T30 l0 x16_1).f6).length c123_6] (by rfl) rfl rfl (by (try simp only [List.map_toArray, List.map_cons, List.map_nil]); first | done | rfl | (simp only [List.length_drop, List.length_take]; rfl) | (simp [Act.eval, *]; done) | (simp [Act.eval, *]; unfold wrap64; omega)) ?_
                  with_reducible refine (impl_own.calls _ _ ((rd_T30 l0 x16_1).f6) t127 _ ?side1 ?side2 A25.out).mono ?_
                  (case side1 => repeat (first | exact (Kd.C_below HR123_6.out HB.out) | (with_reducible refine Kd.C_alloc ?_ _) | (with_reducible refine Kd.C_drewN ?_ _) | (with_reducible refine Kd.C_drew ?_)))
                  (case side2 => exact HC123_6.out)
                  rintro e w31 ⟨v128, rfl, ho0, hb⟩
                  refine ⟨_, rfl, ?_⟩
                  have n0_ := Aside0.mk (Kd.R_elder' (by (with_reducible repeat (first | apply Kd.R_alloc | apply Go.Proofs.Ytnjbobboookfmaa.Ext.R_bytes | apply Kd.R_drewN | apply Kd.R_drew)); exact HO_5.out) (Kd.R_base ho0) hb)
                  have n1_ := Aside0.mk (Kd.R_lower (Kd.R_new' ho0 (Kd.R_lt (by (with_reducible repeat (first | apply Kd.R_alloc | apply Go.Proofs.Ytnjbobboookfmaa.Ext.R_bytes | apply Kd.R_drewN | apply Kd.R_drew)); exact HO_5.out))) (below_size (by repeat (first | (with_reducible first | exact HB.out | apply below_alloc | apply Go.Proofs.Ytnjbobboookfmaa.Ext.below_bytes | apply pw_below_drewN | apply below_drew1 | refine below_set ?_ GE124.out) | exact HB.out))))
                  have n2_ := Aside0.mk (blk_below (g := gb124) (o := .cells #[.int .i64 ((rd_T30 l0 x16_1).f0), .int .u8 ((rd_T30 l0 x16_1).f1), .int .u8 ((rd_T30 l0 x16_1).f2), .int .u8 ((rd_T30 l0 x16_1).f3), .int .u8 ((rd_T30 l0 x16_1).f4), .int .u8 ((rd_T30 l0 x16_1).f5), .slice A123_6 ((rd_T30 l0 x16_1).f6).length c123_6] 30 (0, 0)) (by (with_reducible repeat (first | refine blk_drewN ?_ _ | refine blk_drew ?_ | refine blk_alloc ?_ _)); exact BK124.out) hb)
                  have n3_ := Aside0.mk (below_step (by repeat (first | (with_reducible first | exact HB.out | apply below_alloc | apply Go.Proofs.Ytnjbobboookfmaa.Ext.below_bytes | apply pw_below_drewN | apply below_drew1 | refine below_set ?_ GE124.out) | exact HB.out)) hb)
                  clear HO_5
                  clear BK124
                  clear HB
                  have HO_5 := n0_
                  have HO129 := n1_
                  have BK124 := n2_
                  have HB := n3_
                  clear n0_ n1_ n2_ n3_
                  (try clear hb)
                  (try clear hb2)
                  (try clear hk)
                  (try clear hi)
                  (try clear ho0)
                  obtain ⟨Ao32, co32, eo32⟩ := Kd.R_slice HO_5.out
                  (first | subst eo32 | (injection eo32 with f1_ f2_ f3_; have f4_ := f1_.symm; have f5_ := f3_.symm; clear f1_ f2_ f3_; subst f4_; subst f5_))
                  obtain ⟨Ao33, co33, eo33⟩ := Kd.R_slice HO129.out
                  (first | subst eo33 | (injection eo33 with f1_ f2_ f3_; have f4_ := f1_.symm; have f5_ := f3_.symm; clear f1_ f2_ f3_; subst f4_; subst f5_))
                  refine hK.out _ _ ⟨(blk_cell BK124.out 0).trans rfl, (blk_cell BK124.out 1).trans rfl, (blk_cell BK124.out 2).trans rfl, (blk_cell BK124.out 3).trans rfl, (blk_cell BK124.out 4).trans rfl, (blk_cell BK124.out 5).trans rfl, (blk_cell BK124.out 6).trans rfl⟩ (fun hHeld => ?_)
                  clear hK K
                  refine norm_ (a' := ?_) ?_ ?_
                  rotate_left
                  · show Act.put _ (some 48) _ = _
                    simp only [Act.put, List.setIfInBounds_toArray, List.set_cons_zero, List.set_cons_succ, i64_w, i32_w]
                    rfl
                  refine one_ (i := 11) (N := some 56) #[true, true, true, true, true, true, true, true, true, true, true, true] rfl rfl (one_of HT_.out (by kernel_rfl)) (by decide) (fun K hK => ?_)
                  refine goes_ Try.func21 (by kernel_rfl) rfl #[.slice Ao32 x5_1.length co32, .slice Ao33 t127.length co33, .int .u8 (Int.tmod ((rd_T30 l0 x16_1).f3) 16), .int .u8 ((rd_T30 l0 x16_1).f4), .int .u8 ((rd_T30 l0 x16_1).f5)] (by rfl) rfl rfl (by (try simp only [List.map_toArray, List.map_cons, List.map_nil]); first | done | rfl | (simp only [List.length_drop, List.length_take]; rfl) | (simp [Act.eval, *]; done) | (simp [Act.eval, *]; unfold wrap64; omega)) ?_
                  with_reducible refine (parser_TransitionTable_AddMany.calls k1 (fun k_ => some k_ = (.slice Ao32 x5_1.length co32 : Value).ownBlock) (.slice Ao32 x5_1.length co32) x5_1 _ _ t127 (Int.tmod ((rd_T30 l0 x16_1).f3) 16) ((rd_T30 l0 x16_1).f4) ((rd_T30 l0 x16_1).f5) t130 w _ ?side1 ?side2 ?side3 ?side4 A26.out).mono ?_
                  (case side1 => repeat (first | (with_reducible first | exact HB.out | apply below_alloc | apply Go.Proofs.Ytnjbobboookfmaa.Ext.below_bytes | apply pw_below_drewN | apply below_drew1 | refine below_set ?_ GE124.out) | exact HB.out))
                  (case side2 => exact Kd.R_tight rfl HO_5.out)
                  (case side3 => exact Kd.C_kept_own (HO129.out) (fun k_ hk_ hs_ => (hk_.2) hs_))
                  (case side4 => exact (Kd.R_reads' HO129.out).2.1)
                  rintro e w34 ⟨rfl, hy0, hb, hkp⟩
                  refine ⟨_, rfl, ?_⟩
                  have n0_ := Aside0.mk (Kd.R_reok rfl hy0 (fun k_ e_ => HO_5.out.1 k_ e_))
                  have n1_ := Aside0.mk (blk_kept (by (with_reducible repeat (first | refine blk_drewN ?_ _ | refine blk_drew ?_ | refine blk_alloc ?_ _)); exact BK124.out) hkp (fun hs_ => (fun e_ => (Kd.R_ne HO_5.out BK124.out (by decide)) e_) hs_))
                  have n2_ := Aside0.mk (Kd.R_mono (ok' := fun k_ => some k_ ≠ (.slice Ao32 x5_1.length co32 : Value).ownBlock) (Kd.R_keptB (HO129.out) hkp (fun k_ hk_ hs_ => (hk_.2) hs_)) (fun k_ hk_ => hk_.1.2))
                  have n3_ := Aside0.mk (hb)
                  clear HO_5
                  clear BK124
                  clear HO129
                  clear HB
                  have HO_5 := n0_
                  have BK124 := n1_
                  have HO129 := n2_
                  have HB := n3_
                  clear n0_ n1_ n2_ n3_
                  (try clear hb)
                  (try clear hkp)
                  (try clear hy0)
                  refine hK.out _ _ ⟨(blk_cell BK124.out 0).trans rfl, (blk_cell BK124.out 1).trans rfl, (blk_cell BK124.out 2).trans rfl, (blk_cell BK124.out 3).trans rfl, (blk_cell BK124.out 4).trans rfl, (blk_cell BK124.out 5).trans rfl, (blk_cell BK124.out 6).trans rfl⟩ (fun hHeld => ?_)
                  clear hK K
                  refine norm_ (a' := ?_) ?_ ?_
                  rotate_left
                  · show Act.put _ (some 56) _ = _
                    simp only [Act.put, List.setIfInBounds_toArray, List.set_cons_zero, List.set_cons_succ, i64_w, i32_w]
                    rfl
                  refine done_ (done_of HT_.out (by kernel_rfl)) ?_
                  try go_wp2
                  go_roundg k1
                  case measure => have := HK1.out; omega
                  case rel => exact ⟨(t130), (wrap64 (x16_1 + 1)), (by first | rfl | (simp; done) | (simp [*]; done)), H', ⟨by have := HK1.out; omega⟩, ⟨by (with_reducible repeat (first | apply Kd.R_alloc | apply Go.Proofs.Ytnjbobboookfmaa.Ext.R_bytes | apply Kd.R_drewN | apply Kd.R_drew)); exact Kd.R_mono HO_5.out (fun _ hk => trivial)⟩, ⟨by repeat (first | (with_reducible first | exact HB.out | apply below_alloc | apply Go.Proofs.Ytnjbobboookfmaa.Ext.below_bytes | apply pw_below_drewN | apply below_drew1 | refine below_set ?_ GE124.out) | exact HB.out)⟩⟩
                · rw [if_neg c24] at H
                  have c24b0 : (((rd_T30 l0 x16_1).f0) == 2) = false := beq_eq_false_iff_ne.mpr c24
                  have c24b1 : (((rd_T30 l0 x16_1).f0) != 2) = true := bne_iff_ne.mpr c24
                  by_cases c35 : ((rd_T30 l0 x16_1).f0) = 3
                  · rw [if_pos c35] at H
                    have c35b0 : (((rd_T30 l0 x16_1).f0) == 3) = true := beq_iff_eq.mpr c35
                    have c35b1 : (((rd_T30 l0 x16_1).f0) != 3) = false := bne_eq_false_iff_eq.mpr c35
                    clear c35
                    replace H := Option.bind_eq_some_iff.mp H
                    obtain ⟨t131, A360, H⟩ := H
                    replace H : (impl_TableRun.l0 k1 l1 t131 l0 (l0.length : Int) (wrap64 (x16_1 + 1))) = some r := H
                    have A36 := Aside0.mk A360
                    clear A360
                    have H' := Aside0.mk H
                    clear H
                    have p123 : 0 ≤ (x16_1 : Int) := of_decide_eq_true (by first | (with_reducible assumption) | assumption)
                    have q123 : x16_1 < (l0.length : Int) := of_decide_eq_true (by first | (with_reducible assumption) | assumption)
                    obtain ⟨ad123, A123_6, c123_6, e123, hx123_0, hx123_1, hx123_2, hx123_3, hx123_4, hx123_5, hx123_6, hl123_6, hi123_6⟩ := at_T30 HR0.out x16_1 p123 q123
                    cases e123
                    replace hx123_0 := (HB.out.cell (World.block_lt_of_cell? w _ hx123_0)).trans hx123_0
                    replace hx123_1 := (HB.out.cell (World.block_lt_of_cell? w _ hx123_1)).trans hx123_1
                    replace hx123_2 := (HB.out.cell (World.block_lt_of_cell? w _ hx123_2)).trans hx123_2
                    replace hx123_3 := (HB.out.cell (World.block_lt_of_cell? w _ hx123_3)).trans hx123_3
                    replace hx123_4 := (HB.out.cell (World.block_lt_of_cell? w _ hx123_4)).trans hx123_4
                    replace hx123_5 := (HB.out.cell (World.block_lt_of_cell? w _ hx123_5)).trans hx123_5
                    replace hx123_6 := (HB.out.cell (World.block_lt_of_cell? w _ hx123_6)).trans hx123_6
                    have HR123_6 := Aside0.mk hi123_6
                    have HC123_6 := Aside0.mk hl123_6
                    clear hi123_6 hl123_6
                    replace p123 := eq_true p123
                    replace q123 := eq_true q123
                    go_wp2_with (first | ((with_reducible refine gate_dst (N := 7) rfl ?_); refine box_event ?hg (N := 7) ?hd (cs := #[.int .i64 0, .int .u8 0, .int .u8 0, .int .u8 0, .int .u8 0, .int .u8 0, .slice none 0 0]) (t := 30) ?hr ?_; (case hd => rfl); (case hg => rfl); (case hr => first | (go_simp; done) | (go_simp; rfl)); intro gb124 hg w37 hbox hb; have n0_ := Aside0.mk (Kd.R_below (by (with_reducible repeat (first | apply Kd.R_alloc | apply Go.Proofs.Ytnjbobboookfmaa.Ext.R_bytes | apply Kd.R_drewN | apply Kd.R_drew)); exact HO_5.out) hb); have n1_ := Aside0.mk (below_step (by repeat (first | (with_reducible first | exact HB.out | apply below_alloc | apply Go.Proofs.Ytnjbobboookfmaa.Ext.below_bytes | apply pw_below_drewN | apply below_drew1) | exact HB.out)) hb); have n2_ := Aside0.mk (hbox); have n3_ := Aside0.mk ((by rw [hg]; exact (below_size (by repeat (first | (with_reducible first | exact HB.out | apply below_alloc | apply Go.Proofs.Ytnjbobboookfmaa.Ext.below_bytes | apply pw_below_drewN | apply below_drew1) | exact HB.out))) : w.heap.size ≤ gb124)); have n4_ := Aside0.mk ((by rw [hg]; exact (below_size (by repeat (first | (with_reducible first | exact HB.out | apply below_alloc | apply Go.Proofs.Ytnjbobboookfmaa.Ext.below_bytes | apply pw_below_drewN | apply below_drew1) | exact HB.out))) : w.heap.size ≤ gb124)); clear HO_5; clear HB; have HO_5 := n0_; have HB := n1_; have BK124 := n2_; have GW124 := n3_; have GE124 := n4_; clear n0_ n1_ n2_ n3_ n4_; clear hb hbox hg; have hcz38_0 : w37.cell? ⟨gb124, 0, none⟩ = some (.int .i64 0) := (blk_cell BK124.out 0).trans rfl; have hcz38_1 : w37.cell? ⟨gb124, 1, none⟩ = some (.int .u8 0) := (blk_cell BK124.out 1).trans rfl; have hcz38_2 : w37.cell? ⟨gb124, 2, none⟩ = some (.int .u8 0) := (blk_cell BK124.out 2).trans rfl; have hcz38_3 : w37.cell? ⟨gb124, 3, none⟩ = some (.int .u8 0) := (blk_cell BK124.out 3).trans rfl; have hcz38_4 : w37.cell? ⟨gb124, 4, none⟩ = some (.int .u8 0) := (blk_cell BK124.out 4).trans rfl; have hcz38_5 : w37.cell? ⟨gb124, 5, none⟩ = some (.int .u8 0) := (blk_cell BK124.out 5).trans rfl; have hcz38_6 : w37.cell? ⟨gb124, 6, none⟩ = some (.slice none 0 0) := (blk_cell BK124.out 6).trans rfl; have hfz38_0 := blk_frozen BK124.out 0; have hfz38_1 := blk_frozen BK124.out 1; have hfz38_2 := blk_frozen BK124.out 2; have hfz38_3 := blk_frozen BK124.out 3; have hfz38_4 := blk_frozen BK124.out 4; have hfz38_5 := blk_frozen BK124.out 5; have hfz38_6 := blk_frozen BK124.out 6) | ((with_reducible refine gate_store (t := 30) (p := 7) rfl ?_); refine store_event (t := 30) (p := 7) (v := ?vo_w39) (w1 := (((((((w37.setCell ⟨gb124, 0, none⟩ (.int .i64 ((rd_T30 l0 x16_1).f0))).setCell ⟨gb124, 1, none⟩ (.int .u8 ((rd_T30 l0 x16_1).f1))).setCell ⟨gb124, 2, none⟩ (.int .u8 ((rd_T30 l0 x16_1).f2))).setCell ⟨gb124, 3, none⟩ (.int .u8 ((rd_T30 l0 x16_1).f3))).setCell ⟨gb124, 4, none⟩ (.int .u8 ((rd_T30 l0 x16_1).f4))).setCell ⟨gb124, 5, none⟩ (.int .u8 ((rd_T30 l0 x16_1).f5))).setCell ⟨gb124, 6, none⟩ (.slice A123_6 ((rd_T30 l0 x16_1).f6).length c123_6))) ?hg ?ho ?hn ?hr ?_; (case ho => rfl); (case hg => rfl); (case hn => rfl); (case hr => first | (go_simp; done) | (go_simp; rfl)); intro w39 hw; have n0_ : Aside0 (Kd.R (Kd.int .u8) 5 w39 w.heap.size (fun _ => True) v121 x5_1) := ⟨(by rw [hw]; exact (by (with_reducible repeat (first | apply Kd.R_alloc | apply Go.Proofs.Ytnjbobboookfmaa.Ext.R_bytes | apply Kd.R_drewN | apply Kd.R_drew)); exact Kd.R_mono (Kd.R_far (p := ⟨gb124, 6, none⟩) (Kd.R_far (p := ⟨gb124, 5, none⟩) (Kd.R_far (p := ⟨gb124, 4, none⟩) (Kd.R_far (p := ⟨gb124, 3, none⟩) (Kd.R_far (p := ⟨gb124, 2, none⟩) (Kd.R_far (p := ⟨gb124, 1, none⟩) (Kd.R_far (p := ⟨gb124, 0, none⟩) (Kd.R_types HO_5.out BK124.out (by decide)) (fun _ hk => hk.2) (.int .i64 ((rd_T30 l0 x16_1).f0))) (fun _ hk => hk.2) (.int .u8 ((rd_T30 l0 x16_1).f1))) (fun _ hk => hk.2) (.int .u8 ((rd_T30 l0 x16_1).f2))) (fun _ hk => hk.2) (.int .u8 ((rd_T30 l0 x16_1).f3))) (fun _ hk => hk.2) (.int .u8 ((rd_T30 l0 x16_1).f4))) (fun _ hk => hk.2) (.int .u8 ((rd_T30 l0 x16_1).f5))) (fun _ hk => hk.2) (.slice A123_6 ((rd_T30 l0 x16_1).f6).length c123_6)) (fun _ hk => trivial)))⟩; have n1_ : Aside0 (w39.heap[gb124]? = some (.cells #[.int .i64 ((rd_T30 l0 x16_1).f0), .int .u8 ((rd_T30 l0 x16_1).f1), .int .u8 ((rd_T30 l0 x16_1).f2), .int .u8 ((rd_T30 l0 x16_1).f3), .int .u8 ((rd_T30 l0 x16_1).f4), .int .u8 ((rd_T30 l0 x16_1).f5), .slice A123_6 ((rd_T30 l0 x16_1).f6).length c123_6] 30 (0, 0))) := ⟨(by rw [hw]; exact (by (with_reducible repeat (first | refine blk_drewN ?_ _ | refine blk_drew ?_ | refine blk_alloc ?_ _)); refine blk_put (cs := #[.int .i64 ((rd_T30 l0 x16_1).f0), .int .u8 ((rd_T30 l0 x16_1).f1), .int .u8 ((rd_T30 l0 x16_1).f2), .int .u8 ((rd_T30 l0 x16_1).f3), .int .u8 ((rd_T30 l0 x16_1).f4), .int .u8 ((rd_T30 l0 x16_1).f5), .slice none 0 0]) ?_ 6 _ rfl; (with_reducible repeat (first | refine blk_drewN ?_ _ | refine blk_drew ?_ | refine blk_alloc ?_ _)); refine blk_put (cs := #[.int .i64 ((rd_T30 l0 x16_1).f0), .int .u8 ((rd_T30 l0 x16_1).f1), .int .u8 ((rd_T30 l0 x16_1).f2), .int .u8 ((rd_T30 l0 x16_1).f3), .int .u8 ((rd_T30 l0 x16_1).f4), .int .u8 0, .slice none 0 0]) ?_ 5 _ rfl; (with_reducible repeat (first | refine blk_drewN ?_ _ | refine blk_drew ?_ | refine blk_alloc ?_ _)); refine blk_put (cs := #[.int .i64 ((rd_T30 l0 x16_1).f0), .int .u8 ((rd_T30 l0 x16_1).f1), .int .u8 ((rd_T30 l0 x16_1).f2), .int .u8 ((rd_T30 l0 x16_1).f3), .int .u8 0, .int .u8 0, .slice none 0 0]) ?_ 4 _ rfl; (with_reducible repeat (first | refine blk_drewN ?_ _ | refine blk_drew ?_ | refine blk_alloc ?_ _)); refine blk_put (cs := #[.int .i64 ((rd_T30 l0 x16_1).f0), .int .u8 ((rd_T30 l0 x16_1).f1), .int .u8 ((rd_T30 l0 x16_1).f2), .int .u8 0, .int .u8 0, .int .u8 0, .slice none 0 0]) ?_ 3 _ rfl; (with_reducible repeat (first | refine blk_drewN ?_ _ | refine blk_drew ?_ | refine blk_alloc ?_ _)); refine blk_put (cs := #[.int .i64 ((rd_T30 l0 x16_1).f0), .int .u8 ((rd_T30 l0 x16_1).f1), .int .u8 0, .int .u8 0, .int .u8 0, .int .u8 0, .slice none 0 0]) ?_ 2 _ rfl; (with_reducible repeat (first | refine blk_drewN ?_ _ | refine blk_drew ?_ | refine blk_alloc ?_ _)); refine blk_put (cs := #[.int .i64 ((rd_T30 l0 x16_1).f0), .int .u8 0, .int .u8 0, .int .u8 0, .int .u8 0, .int .u8 0, .slice none 0 0]) ?_ 1 _ rfl; (with_reducible repeat (first | refine blk_drewN ?_ _ | refine blk_drew ?_ | refine blk_alloc ?_ _)); refine blk_put (cs := #[.int .i64 0, .int .u8 0, .int .u8 0, .int .u8 0, .int .u8 0, .int .u8 0, .slice none 0 0]) ?_ 0 _ rfl; (with_reducible repeat (first | refine blk_drewN ?_ _ | refine blk_drew ?_ | refine blk_alloc ?_ _)); exact BK124.out))⟩; have n2_ : Aside0 (Below w.heap.size w w39) := ⟨(by rw [hw]; exact (by repeat (first | (with_reducible first | exact HB.out | apply below_alloc | apply Go.Proofs.Ytnjbobboookfmaa.Ext.below_bytes | apply pw_below_drewN | apply below_drew1 | refine below_set ?_ GE124.out) | exact HB.out)))⟩; clear hw; clear HO_5; clear BK124; clear HB; have HO_5 := n0_; have BK124 := n1_; have HB := n2_; clear n0_ n1_ n2_; have hcz40_0 : w39.cell? ⟨gb124, 0, none⟩ = some (.int .i64 ((rd_T30 l0 x16_1).f0)) := (blk_cell BK124.out 0).trans rfl; have hcz40_1 : w39.cell? ⟨gb124, 1, none⟩ = some (.int .u8 ((rd_T30 l0 x16_1).f1)) := (blk_cell BK124.out 1).trans rfl; have hcz40_2 : w39.cell? ⟨gb124, 2, none⟩ = some (.int .u8 ((rd_T30 l0 x16_1).f2)) := (blk_cell BK124.out 2).trans rfl; have hcz40_3 : w39.cell? ⟨gb124, 3, none⟩ = some (.int .u8 ((rd_T30 l0 x16_1).f3)) := (blk_cell BK124.out 3).trans rfl; have hcz40_4 : w39.cell? ⟨gb124, 4, none⟩ = some (.int .u8 ((rd_T30 l0 x16_1).f4)) := (blk_cell BK124.out 4).trans rfl; have hcz40_5 : w39.cell? ⟨gb124, 5, none⟩ = some (.int .u8 ((rd_T30 l0 x16_1).f5)) := (blk_cell BK124.out 5).trans rfl; have hcz40_6 : w39.cell? ⟨gb124, 6, none⟩ = some (.slice A123_6 ((rd_T30 l0 x16_1).f6).length c123_6) := (blk_cell BK124.out 6).trans rfl; have hfz40_0 := blk_frozen BK124.out 0; have hfz40_1 := blk_frozen BK124.out 1; have hfz40_2 := blk_frozen BK124.out 2; have hfz40_3 := blk_frozen BK124.out 3; have hfz40_4 := blk_frozen BK124.out 4; have hfz40_5 := blk_frozen BK124.out 5; have hfz40_6 := blk_frozen BK124.out 6; obtain ⟨Ao41, co41, eo41⟩ := Kd.R_slice HO_5.out; subst eo41) | ((with_reducible refine gate_callee (f := 23) rfl ?_); refine goesL_ (some 71) rfl rfl Try.func23 (by kernel_rfl) rfl #[.slice Ao41 x5_1.length co41, .int .u8 ((rd_T30 l0 x16_1).f1), .int .u8 ((rd_T30 l0 x16_1).f2), .int .u8 (Int.tmod ((rd_T30 l0 x16_1).f3) 16), .int .u8 ((rd_T30 l0 x16_1).f4), .int .u8 ((rd_T30 l0 x16_1).f5)] rfl (by (try simp only [List.map_toArray, List.map_cons, List.map_nil]); first | done | rfl | (simp only [List.length_drop, List.length_take]; rfl) | (simp [Act.eval, *]; done) | (simp [Act.eval, *]; unfold wrap64; omega)) ?_; (with_reducible refine (parser_TransitionTable_AddRange.calls k1 (fun k_ => some k_ = (.slice Ao41 x5_1.length co41 : Value).ownBlock) (.slice Ao41 x5_1.length co41) x5_1 ((rd_T30 l0 x16_1).f1) ((rd_T30 l0 x16_1).f2) (Int.tmod ((rd_T30 l0 x16_1).f3) 16) ((rd_T30 l0 x16_1).f4) ((rd_T30 l0 x16_1).f5) t131 w _ ?side1 ?side2 A36.out).mono ?_); (case side1 => repeat (first | (with_reducible first | exact HB.out | apply below_alloc | apply Go.Proofs.Ytnjbobboookfmaa.Ext.below_bytes | apply pw_below_drewN | apply below_drew1 | refine below_set ?_ GE124.out) | exact HB.out)); (case side2 => exact Kd.R_tight rfl HO_5.out); rintro e w42 ⟨rfl, hy0, hb, hkp⟩; refine ⟨_, rfl, ?_⟩; have n0_ := Aside0.mk (Kd.R_reok rfl hy0 (fun k_ e_ => HO_5.out.1 k_ e_)); have n1_ := Aside0.mk (blk_kept (by (with_reducible repeat (first | refine blk_drewN ?_ _ | refine blk_drew ?_ | refine blk_alloc ?_ _)); exact BK124.out) hkp (fun hs_ => (fun e_ => (Kd.R_ne HO_5.out BK124.out (by decide)) e_) hs_)); have n2_ := Aside0.mk (hb); clear HO_5; clear BK124; clear HB; have HO_5 := n0_; have BK124 := n1_; have HB := n2_; clear n0_ n1_ n2_; (try clear hb); (try clear hkp); (try clear hy0)))
                    go_roundg k1
                    case measure => have := HK1.out; omega
                    case rel => exact ⟨(t131), (wrap64 (x16_1 + 1)), (by first | rfl | (simp; done) | (simp [*]; done)), H', ⟨by have := HK1.out; omega⟩, ⟨by (with_reducible repeat (first | apply Kd.R_alloc | apply Go.Proofs.Ytnjbobboookfmaa.Ext.R_bytes | apply Kd.R_drewN | apply Kd.R_drew)); exact HO_5.out⟩, ⟨by repeat (first | (with_reducible first | exact HB.out | apply below_alloc | apply Go.Proofs.Ytnjbobboookfmaa.Ext.below_bytes | apply pw_below_drewN | apply below_drew1 | refine below_set ?_ GE124.out) | exact HB.out)⟩⟩
                  · rw [if_neg c35] at H
                    have c35b0 : (((rd_T30 l0 x16_1).f0) == 3) = false := beq_eq_false_iff_ne.mpr c35
                    have c35b1 : (((rd_T30 l0 x16_1).f0) != 3) = true := bne_iff_ne.mpr c35
                    have H' := Aside0.mk H
                    clear H
                    have p123 : 0 ≤ (x16_1 : Int) := of_decide_eq_true (by first | (with_reducible assumption) | assumption)
                    have q123 : x16_1 < (l0.length : Int) := of_decide_eq_true (by first | (with_reducible assumption) | assumption)
                    obtain ⟨ad123, A123_6, c123_6, e123, hx123_0, hx123_1, hx123_2, hx123_3, hx123_4, hx123_5, hx123_6, hl123_6, hi123_6⟩ := at_T30 HR0.out x16_1 p123 q123
                    cases e123
                    replace hx123_0 := (HB.out.cell (World.block_lt_of_cell? w _ hx123_0)).trans hx123_0
                    replace hx123_1 := (HB.out.cell (World.block_lt_of_cell? w _ hx123_1)).trans hx123_1
                    replace hx123_2 := (HB.out.cell (World.block_lt_of_cell? w _ hx123_2)).trans hx123_2
                    replace hx123_3 := (HB.out.cell (World.block_lt_of_cell? w _ hx123_3)).trans hx123_3
                    replace hx123_4 := (HB.out.cell (World.block_lt_of_cell? w _ hx123_4)).trans hx123_4
                    replace hx123_5 := (HB.out.cell (World.block_lt_of_cell? w _ hx123_5)).trans hx123_5
                    replace hx123_6 := (HB.out.cell (World.block_lt_of_cell? w _ hx123_6)).trans hx123_6
                    have HR123_6 := Aside0.mk hi123_6
                    have HC123_6 := Aside0.mk hl123_6
                    clear hi123_6 hl123_6
                    replace p123 := eq_true p123
                    replace q123 := eq_true q123
                    go_wp2_with (first | ((with_reducible refine gate_dst (N := 7) rfl ?_); refine box_event ?hg (N := 7) ?hd (cs := #[.int .i64 0, .int .u8 0, .int .u8 0, .int .u8 0, .int .u8 0, .int .u8 0, .slice none 0 0]) (t := 30) ?hr ?_; (case hd => rfl); (case hg => rfl); (case hr => first | (go_simp; done) | (go_simp; rfl)); intro gb124 hg w43 hbox hb; have n0_ := Aside0.mk (Kd.R_below (by (with_reducible repeat (first | apply Kd.R_alloc | apply Go.Proofs.Ytnjbobboookfmaa.Ext.R_bytes | apply Kd.R_drewN | apply Kd.R_drew)); exact HO_5.out) hb); have n1_ := Aside0.mk (below_step (by repeat (first | (with_reducible first | exact HB.out | apply below_alloc | apply Go.Proofs.Ytnjbobboookfmaa.Ext.below_bytes | apply pw_below_drewN | apply below_drew1) | exact HB.out)) hb); have n2_ := Aside0.mk (hbox); have n3_ := Aside0.mk ((by rw [hg]; exact (below_size (by repeat (first | (with_reducible first | exact HB.out | apply below_alloc | apply Go.Proofs.Ytnjbobboookfmaa.Ext.below_bytes | apply pw_below_drewN | apply below_drew1) | exact HB.out))) : w.heap.size ≤ gb124)); have n4_ := Aside0.mk ((by rw [hg]; exact (below_size (by repeat (first | (with_reducible first | exact HB.out | apply below_alloc | apply Go.Proofs.Ytnjbobboookfmaa.Ext.below_bytes | apply pw_below_drewN | apply below_drew1) | exact HB.out))) : w.heap.size ≤ gb124)); clear HO_5; clear HB; have HO_5 := n0_; have HB := n1_; have BK124 := n2_; have GW124 := n3_; have GE124 := n4_; clear n0_ n1_ n2_ n3_ n4_; clear hb hbox hg; have hcz44_0 : w43.cell? ⟨gb124, 0, none⟩ = some (.int .i64 0) := (blk_cell BK124.out 0).trans rfl; have hcz44_1 : w43.cell? ⟨gb124, 1, none⟩ = some (.int .u8 0) := (blk_cell BK124.out 1).trans rfl; have hcz44_2 : w43.cell? ⟨gb124, 2, none⟩ = some (.int .u8 0) := (blk_cell BK124.out 2).trans rfl; have hcz44_3 : w43.cell? ⟨gb124, 3, none⟩ = some (.int .u8 0) := (blk_cell BK124.out 3).trans rfl; have hcz44_4 : w43.cell? ⟨gb124, 4, none⟩ = some (.int .u8 0) := (blk_cell BK124.out 4).trans rfl; have hcz44_5 : w43.cell? ⟨gb124, 5, none⟩ = some (.int .u8 0) := (blk_cell BK124.out 5).trans rfl; have hcz44_6 : w43.cell? ⟨gb124, 6, none⟩ = some (.slice none 0 0) := (blk_cell BK124.out 6).trans rfl; have hfz44_0 := blk_frozen BK124.out 0; have hfz44_1 := blk_frozen BK124.out 1; have hfz44_2 := blk_frozen BK124.out 2; have hfz44_3 := blk_frozen BK124.out 3; have hfz44_4 := blk_frozen BK124.out 4; have hfz44_5 := blk_frozen BK124.out 5; have hfz44_6 := blk_frozen BK124.out 6))
                    go_roundg k1
                    case measure => have := HK1.out; omega
                    case rel => exact ⟨(x5_1), (wrap64 (x16_1 + 1)), (by first | rfl | (simp; done) | (simp [*]; done)), H', ⟨by have := HK1.out; omega⟩, ⟨by (with_reducible repeat (first | apply Kd.R_alloc | apply Go.Proofs.Ytnjbobboookfmaa.Ext.R_bytes | apply Kd.R_drewN | apply Kd.R_drew)); exact Kd.R_mono (Kd.R_far (p := ⟨gb124, 6, none⟩) (Kd.R_far (p := ⟨gb124, 5, none⟩) (Kd.R_far (p := ⟨gb124, 4, none⟩) (Kd.R_far (p := ⟨gb124, 3, none⟩) (Kd.R_far (p := ⟨gb124, 2, none⟩) (Kd.R_far (p := ⟨gb124, 1, none⟩) (Kd.R_far (p := ⟨gb124, 0, none⟩) (Kd.R_types HO_5.out BK124.out (by decide)) (fun _ hk => hk.2) (.int .i64 ((rd_T30 l0 x16_1).f0))) (fun _ hk => hk.2) (.int .u8 ((rd_T30 l0 x16_1).f1))) (fun _ hk => hk.2) (.int .u8 ((rd_T30 l0 x16_1).f2))) (fun _ hk => hk.2) (.int .u8 ((rd_T30 l0 x16_1).f3))) (fun _ hk => hk.2) (.int .u8 ((rd_T30 l0 x16_1).f4))) (fun _ hk => hk.2) (.int .u8 ((rd_T30 l0 x16_1).f5))) (fun _ hk => hk.2) (.slice A123_6 ((rd_T30 l0 x16_1).f6).length c123_6)) (fun _ hk => trivial)⟩, ⟨by repeat (first | (with_reducible first | exact HB.out | apply below_alloc | apply Go.Proofs.Ytnjbobboookfmaa.Ext.below_bytes | apply pw_below_drewN | apply below_drew1 | refine below_set ?_ GE124.out) | exact HB.out)⟩⟩
          · rw [if_neg c7] at H
            exact absurd H (by simp)
        · rw [if_neg c6] at H
          exact absurd H (by simp)
      · rw [if_neg c5] at H
        have c5b0 : decide (x16_1 < (l0.length : Int)) = false := decide_eq_false c5
        (try (have c5b90 := c5b0; simp only [hl123_6] at c5b90))
        clear c5
        have H' := Aside0.mk H
        clear H
        go_wp2
        go_loopg [8, 75] k1 (fun kq v8 v75 w' => ∃ (x8_2 : List (S39)) (x75_2 : Int), v75 = .int .i64 x75_2 ∧ Aside0 (impl_TableRun.l1 kq x5_1 x8_2 l1 (l1.length : Int) x75_2 = some r) ∧ Aside0 (kq ≤ k1) ∧ Aside0 (Kd.R (Kd.int .u8) 5 w' w.heap.size (fun _ => True) v121 x5_1) ∧ Aside0 (Kd.R k39 39 w' w.heap.size (fun _ => True) v8 x8_2) ∧ Aside0 (Below w.heap.size w w'))
        case atStart => exact ⟨(([] : List (S39))), (0), (by first | rfl | (simp; done) | (simp [*]; done)), H', ⟨Nat.le_refl _⟩, ⟨by (with_reducible repeat (first | apply Kd.R_alloc | apply Go.Proofs.Ytnjbobboookfmaa.Ext.R_bytes | apply Kd.R_drewN | apply Kd.R_drew)); exact HO_5.out⟩, ⟨by first | exact Kd.R_nil _ _ _ _ _ | exact Kd.N_nil _ _ _ _ _ | exact Kd.V_nil _ _ _ _ _ | exact Kd.Q_nil _ _ _ _ _ | exact Kd.S_nil _ _ _ _ _⟩, ⟨by repeat (first | (with_reducible first | exact HB.out | apply below_alloc | apply Go.Proofs.Ytnjbobboookfmaa.Ext.below_bytes | apply pw_below_drewN | apply below_drew1) | exact HB.out)⟩⟩
        case round =>
          clear H'
          try clear c1
          try clear p1
          try clear q1
          try clear hx1
          try clear c2
          try clear p2
          try clear c3
          try clear c5
          try clear c5b0
          try clear c6
          try clear c6b0
          try clear p6
          try clear c7
          try clear c7b0
          try clear c8
          try clear c8b0
          try clear c8b1
          try clear c12
          try clear p12
          try clear q12
          try clear hx12
          try clear c16
          try clear c16b0
          try clear c16b1
          try clear c18
          try clear c19
          try clear c20
          try clear c21
          try clear c22
          try clear c23
          try clear c24
          try clear c24b0
          try clear c24b1
          try clear c35
          try clear c35b0
          try clear c35b1
          try clear hcz11_0
          try clear hcz11_1
          try clear hcz11_2
          try clear hcz11_3
          try clear hcz11_4
          try clear hcz11_5
          try clear hcz11_6
          try clear hcz13_0
          try clear hcz13_1
          try clear hcz13_2
          try clear hcz13_3
          try clear hcz13_4
          try clear hcz13_5
          try clear hcz13_6
          try clear hcz19_0
          try clear hcz19_1
          try clear hcz19_2
          try clear hcz19_3
          try clear hcz19_4
          try clear hcz19_5
          try clear hcz19_6
          try clear hcz21_0
          try clear hcz21_1
          try clear hcz21_2
          try clear hcz21_3
          try clear hcz21_4
          try clear hcz21_5
          try clear hcz21_6
          try clear hcz28_0
          try clear hcz28_1
          try clear hcz28_2
          try clear hcz28_3
          try clear hcz28_4
          try clear hcz28_5
          try clear hcz28_6
          try clear hcz38_0
          try clear hcz38_1
          try clear hcz38_2
          try clear hcz38_3
          try clear hcz38_4
          try clear hcz38_5
          try clear hcz38_6
          try clear hcz40_0
          try clear hcz40_1
          try clear hcz40_2
          try clear hcz40_3
          try clear hcz40_4
          try clear hcz40_5
          try clear hcz40_6
          try clear hcz44_0
          try clear hcz44_1
          try clear hcz44_2
          try clear hcz44_3
          try clear hcz44_4
          try clear hcz44_5
          try clear hcz44_6
          try clear hfz11_0
          try clear hfz11_1
          try clear hfz11_2
          try clear hfz11_3
          try clear hfz11_4
          try clear hfz11_5
          try clear hfz11_6
          try clear hfz13_0
          try clear hfz13_1
          try clear hfz13_2
          try clear hfz13_3
          try clear hfz13_4
          try clear hfz13_5
          try clear hfz13_6
          try clear hfz19_0
          try clear hfz19_1
          try clear hfz19_2
          try clear hfz19_3
          try clear hfz19_4
          try clear hfz19_5
          try clear hfz19_6
          try clear hfz21_0
          try clear hfz21_1
          try clear hfz21_2
          try clear hfz21_3
          try clear hfz21_4
          try clear hfz21_5
          try clear hfz21_6
          try clear hfz28_0
          try clear hfz28_1
          try clear hfz28_2
          try clear hfz28_3
          try clear hfz28_4
          try clear hfz28_5
          try clear hfz28_6
          try clear hfz38_0
          try clear hfz38_1
          try clear hfz38_2
          try clear hfz38_3
          try clear hfz38_4
          try clear hfz38_5
          try clear hfz38_6
          try clear hfz40_0
          try clear hfz40_1
          try clear hfz40_2
          try clear hfz40_3
          try clear hfz40_4
          try clear hfz40_5
          try clear hfz40_6
          try clear hfz44_0
          try clear hfz44_1
          try clear hfz44_2
          try clear hfz44_3
          try clear hfz44_4
          try clear hfz44_5
          try clear hfz44_6
          try clear hx123_0
          try clear hx123_1
          try clear hx123_2
          try clear hx123_3
          try clear hx123_4
          try clear hx123_5
          try clear hx123_6
          try clear p123
          try clear p2
          try clear q123
          obtain ⟨x8_2, x75_2, rfl, HA, HK2, HO_5, HO_8, HB⟩ := hrel
          cases gk with
          | zero => exact absurd HA.out (by simp [impl_TableRun.l1])
          | succ k2 =>
            have H := HA.out
            clear HA
            simp only [impl_TableRun.l1] at H
            by_cases c45 : x75_2 < (l1.length : Int)
            · rw [if_pos c45] at H
              have c45b0 : decide (x75_2 < (l1.length : Int)) = true := decide_eq_true c45
              (try (have c45b90 := c45b0; simp only [hl123_6] at c45b90))
              clear c45
              by_cases c46 : 0 ≤ x75_2
              · rw [if_pos c46] at H
                have c46b0 : decide (0 ≤ x75_2) = true := decide_eq_true c46
                clear c46
                by_cases c47 : x75_2 < (l1.length : Int)
                · rw [if_pos c47] at H
                  have c47b0 : decide (x75_2 < (l1.length : Int)) = true := decide_eq_true c47
                  (try (have c47b90 := c47b0; simp only [hl123_6] at c47b90))
                  clear c47
                  replace H := Option.bind_eq_some_iff.mp H
                  obtain ⟨⟨t134, t135⟩, A480, H⟩ := H
                  replace H : (if x8_2.length < 70368744177664 then (impl_TableRun.l1 k2 x5_1 (x8_2 ++ [(⟨t134, t135⟩ : S39)]) l1 (l1.length : Int) (wrap64 (x75_2 + 1))) else (none)) = some r := H
                  have A48 := Aside0.mk A480
                  clear A480
                  by_cases c49 : x8_2.length < 70368744177664
                  · rw [if_pos c49] at H
                    have LMc49 := Aside0.mk c49
                    clear c49
                    obtain ⟨y136, hy136⟩ : ∃ y_ : List (S39), y_ = (x8_2 ++ [(⟨t134, t135⟩ : S39)]) := ⟨_, rfl⟩
                    replace H : (impl_TableRun.l1 k2 x5_1 y136 l1 (l1.length : Int) (wrap64 (x75_2 + 1))) = some r := by first | (rw [hy136]; with_reducible exact H) | (have H2_ := (Option.bind_some _ _).symm.trans H; rw [hy136]; with_reducible exact H2_) | (have H2_ := (Option.bind_some _ _).symm.trans H; with_reducible exact H2_) | with_reducible exact H | (rw [hy136]; exact H) | exact H
                    have Ny136 := Aside0.mk hy136
                    clear hy136
                    have H' := Aside0.mk H
                    clear H
                    have p132 : 0 ≤ (x75_2 : Int) := of_decide_eq_true (by first | (with_reducible assumption) | assumption)
                    have q132 : x75_2 < (l1.length : Int) := of_decide_eq_true (by first | (with_reducible assumption) | assumption)
                    obtain ⟨ad132, e132, hx132_0, hx132_1⟩ := at_T32 HR1.out x75_2 p132 q132
                    cases e132
                    replace hx132_0 := (HB.out.cell (World.block_lt_of_cell? w _ hx132_0)).trans hx132_0
                    replace hx132_1 := (HB.out.cell (World.block_lt_of_cell? w _ hx132_1)).trans hx132_1
                    replace p132 := eq_true p132
                    replace q132 := eq_true q132
                    go_wp2_with (first | ((with_reducible refine gate_dst (N := 10) rfl ?_); refine box_event ?hg (N := 10) ?hd (cs := #[.int .u8 0, .int .u8 0]) (t := 32) ?hr ?_; (case hd => rfl); (case hg => rfl); (case hr => first | (go_simp; done) | (go_simp; rfl)); intro gb133 hg w50 hbox hb; have n0_ := Aside0.mk (Kd.R_below (by (with_reducible repeat (first | apply Kd.R_alloc | apply Go.Proofs.Ytnjbobboookfmaa.Ext.R_bytes | apply Kd.R_drewN | apply Kd.R_drew)); exact HO_5.out) hb); have n1_ := Aside0.mk (Kd.R_below (by (with_reducible repeat (first | apply Kd.R_alloc | apply Go.Proofs.Ytnjbobboookfmaa.Ext.R_bytes | apply Kd.R_drewN | apply Kd.R_drew)); exact HO_8.out) hb); have n2_ := Aside0.mk (below_step (by repeat (first | (with_reducible first | exact HB.out | apply below_alloc | apply Go.Proofs.Ytnjbobboookfmaa.Ext.below_bytes | apply pw_below_drewN | apply below_drew1) | exact HB.out)) hb); have n3_ := Aside0.mk (hbox); have n4_ := Aside0.mk ((by rw [hg]; exact (below_size (by repeat (first | (with_reducible first | exact HB.out | apply below_alloc | apply Go.Proofs.Ytnjbobboookfmaa.Ext.below_bytes | apply pw_below_drewN | apply below_drew1) | exact HB.out))) : w.heap.size ≤ gb133)); have n5_ := Aside0.mk ((by rw [hg]; exact (below_size (by repeat (first | (with_reducible first | exact HB.out | apply below_alloc | apply Go.Proofs.Ytnjbobboookfmaa.Ext.below_bytes | apply pw_below_drewN | apply below_drew1) | exact HB.out))) : w.heap.size ≤ gb133)); clear HO_5; clear HO_8; clear HB; have HO_5 := n0_; have HO_8 := n1_; have HB := n2_; have BK133 := n3_; have GW133 := n4_; have GE133 := n5_; clear n0_ n1_ n2_ n3_ n4_ n5_; clear hb hbox hg; have hcz51_0 : w50.cell? ⟨gb133, 0, none⟩ = some (.int .u8 0) := (blk_cell BK133.out 0).trans rfl; have hcz51_1 : w50.cell? ⟨gb133, 1, none⟩ = some (.int .u8 0) := (blk_cell BK133.out 1).trans rfl; have hfz51_0 := blk_frozen BK133.out 0; have hfz51_1 := blk_frozen BK133.out 1; obtain ⟨Ao52, co52, eo52⟩ := Kd.R_slice HO_5.out; subst eo52) | ((with_reducible refine gate_callee (f := 24) rfl ?_); refine goesL_ (some 86) rfl rfl Try.func24 (by kernel_rfl) rfl #[.slice Ao52 x5_1.length co52, .int .u8 (Int.tmod ((rd_T32 l1 x75_2).f0) 16), .int .u8 ((rd_T32 l1 x75_2).f1)] rfl (by (try simp only [List.map_toArray, List.map_cons, List.map_nil]); first | done | rfl | (simp only [List.length_drop, List.length_take]; rfl) | (simp [Act.eval, *]; done) | (simp [Act.eval, *]; unfold wrap64; omega)) ?_; (with_reducible refine (parser_TransitionTable_Transition.calls _ _ x5_1 (Int.tmod ((rd_T32 l1 x75_2).f0) 16) ((rd_T32 l1 x75_2).f1) t134 t135 _ ?side1 ?side2 A48.out).mono ?_); (case side1 => refine (Kd.R_reads' (e := 5) (base := w.heap.size) (ok := fun k_ => True) (n := x5_1.length) (c := co52) ?_).2.2; exact (by (with_reducible repeat (first | apply Kd.R_alloc | apply Go.Proofs.Ytnjbobboookfmaa.Ext.R_bytes | apply Kd.R_drewN | apply Kd.R_drew)); exact (Kd.R_mono (Kd.R_far (p := ⟨gb133, 1, none⟩) (Kd.R_far (p := ⟨gb133, 0, none⟩) (Kd.R_types HO_5.out BK133.out (by decide)) (fun _ hk => hk.2) (.int .u8 ((rd_T32 l1 x75_2).f0))) (fun _ hk => hk.2) (.int .u8 ((rd_T32 l1 x75_2).f1))) (fun _ h_ => h_.1)))); (case side2 => exact (Kd.R_reads' HO_5.out).2.1); rintro e w' ⟨rfl, ⟨nd, rfl⟩⟩; refine ⟨_, rfl, ?_⟩) | ((with_reducible refine gate_builtin (b := .append) (xs := #[.tmp 89, .tmp 93]) rfl ?_); at_builtin; refine Kd.R_append k39 (w0 := w) w.heap.size rfl (.tmp 89) (.tmp 93) 34 39 (.agg #[(.int .u8 0), (.int .u8 0)]) 2 rfl Try.underlying34 info39 rfl (by decide) (by omega) u8 x8_2 (⟨t134, t135⟩ : S39) [.int .u8 t134, .int .u8 t135] (fun _ => True) (fun _ => False) rfl (by first | (go_simp; done) | (go_simp; rfl)) ?aP (fun _ hk => hk.elim) ?aF ?aO ?aB ?aS ?aL ?_; (case aP => exact k39_mkM _ _ _ (⟨t134, t135⟩ : S39)); (case aB => exact (by repeat (first | (with_reducible first | exact HB.out | apply below_alloc | apply Go.Proofs.Ytnjbobboookfmaa.Ext.below_bytes | apply pw_below_drewN | apply below_drew1 | refine below_set ?_ GE133.out) | exact HB.out))); (case aF => exact (fun _ _ => trivial)); (case aO => exact (by (with_reducible repeat (first | apply Kd.R_alloc | apply Go.Proofs.Ytnjbobboookfmaa.Ext.R_bytes | apply Kd.R_drewN | apply Kd.R_drew)); exact Kd.R_mono (Kd.R_far (p := ⟨gb133, 1, none⟩) (Kd.R_far (p := ⟨gb133, 0, none⟩) (Kd.R_types HO_8.out BK133.out (by decide)) (fun _ hk => hk.2) (.int .u8 ((rd_T32 l1 x75_2).f0))) (fun _ hk => hk.2) (.int .u8 ((rd_T32 l1 x75_2).f1))) (fun _ hk => trivial))); (case aS => exact (below_size (by repeat (first | (with_reducible first | exact HB.out | apply below_alloc | apply Go.Proofs.Ytnjbobboookfmaa.Ext.below_bytes | apply pw_below_drewN | apply below_drew1 | refine below_set ?_ GE133.out) | exact HB.out)))); (case aL => have := LMc49.out; omega); intro v137 w53 ho hb hg hat; rw [← Ny136.out] at ho; have n0_ := Aside0.mk (Kd.R_over' (by (with_reducible repeat (first | apply Kd.R_alloc | apply Go.Proofs.Ytnjbobboookfmaa.Ext.R_bytes | apply Kd.R_drewN | apply Kd.R_drew)); exact (Kd.R_mono (Kd.R_far (p := ⟨gb133, 1, none⟩) (Kd.R_far (p := ⟨gb133, 0, none⟩) (Kd.R_types HO_5.out BK133.out (by decide)) (fun _ hk => hk.2) (.int .u8 ((rd_T32 l1 x75_2).f0))) (fun _ hk => hk.2) (.int .u8 ((rd_T32 l1 x75_2).f1))) (fun _ h_ => h_.1))) (Kd.R_typed (by (with_reducible repeat (first | apply Kd.R_alloc | apply Go.Proofs.Ytnjbobboookfmaa.Ext.R_bytes | apply Kd.R_drewN | apply Kd.R_drew)); exact (Kd.R_mono (Kd.R_far (p := ⟨gb133, 1, none⟩) (Kd.R_far (p := ⟨gb133, 0, none⟩) (Kd.R_types HO_8.out BK133.out (by decide)) (fun _ hk => hk.2) (.int .u8 ((rd_T32 l1 x75_2).f0))) (fun _ hk => hk.2) (.int .u8 ((rd_T32 l1 x75_2).f1))) (fun _ h_ => h_.1)))) (by decide) hg); have n1_ := Aside0.mk (blk_grown (g := gb133) (o := .cells #[.int .u8 ((rd_T32 l1 x75_2).f0), .int .u8 ((rd_T32 l1 x75_2).f1)] 32 (0, 0)) (by (with_reducible repeat (first | refine blk_drewN ?_ _ | refine blk_drew ?_ | refine blk_alloc ?_ _)); refine blk_put (cs := #[.int .u8 ((rd_T32 l1 x75_2).f0), .int .u8 0]) ?_ 1 _ rfl; (with_reducible repeat (first | refine blk_drewN ?_ _ | refine blk_drew ?_ | refine blk_alloc ?_ _)); refine blk_put (cs := #[.int .u8 0, .int .u8 0]) ?_ 0 _ rfl; (with_reducible repeat (first | refine blk_drewN ?_ _ | refine blk_drew ?_ | refine blk_alloc ?_ _)); exact BK133.out) hg (Kd.R_ne HO_8.out BK133.out (by decide))); have n2_ := Aside0.mk (hb); have n3_ := Aside0.mk (ho); clear HO_5; clear BK133; clear HB; clear HO_8; have HO_5 := n0_; have BK133 := n1_; have HB := n2_; have HO138 := n3_; clear n0_ n1_ n2_ n3_; clear ho hb hg hat))
                    go_roundg k2
                    case measure => have := HK1.out; have := HK2.out; omega
                    case rel => exact ⟨(y136), (wrap64 (x75_2 + 1)), (by first | rfl | (simp; done) | (simp [*]; done)), H', ⟨by have := HK1.out; have := HK2.out; omega⟩, ⟨by (with_reducible repeat (first | apply Kd.R_alloc | apply Go.Proofs.Ytnjbobboookfmaa.Ext.R_bytes | apply Kd.R_drewN | apply Kd.R_drew)); exact HO_5.out⟩, ⟨by (with_reducible repeat (first | apply Kd.R_alloc | apply Go.Proofs.Ytnjbobboookfmaa.Ext.R_bytes | apply Kd.R_drewN | apply Kd.R_drew)); exact HO138.out⟩, ⟨by repeat (first | (with_reducible first | exact HB.out | apply below_alloc | apply Go.Proofs.Ytnjbobboookfmaa.Ext.below_bytes | apply pw_below_drewN | apply below_drew1 | refine below_set ?_ GE133.out) | exact HB.out)⟩⟩
                  · rw [if_neg c49] at H
                    exact absurd H (by simp)
                · rw [if_neg c47] at H
                  exact absurd H (by simp)
              · rw [if_neg c46] at H
                exact absurd H (by simp)
            · rw [if_neg c45] at H
              have c45b0 : decide (x75_2 < (l1.length : Int)) = false := decide_eq_false c45
              (try (have c45b90 := c45b0; simp only [hl123_6] at c45b90))
              clear c45
              obtain rfl := Option.some.inj H
              go_wp2
              go_ret
              exact ⟨_, by first | rfl | (simp [errW_none, errW_some] <;> rfl) | (simp [*, errW_none, errW_some] <;> rfl), by (with_reducible repeat (first | apply Kd.R_alloc | apply Go.Proofs.Ytnjbobboookfmaa.Ext.R_bytes | apply Kd.R_drewN | apply Kd.R_drew)); exact HO_8.out, by repeat (first | (with_reducible first | exact HB.out | apply below_alloc | apply Go.Proofs.Ytnjbobboookfmaa.Ext.below_bytes | apply pw_below_drewN | apply below_drew1) | exact HB.out)⟩

end Go.Proofs.Ytnjbobboookfmaa.PB
