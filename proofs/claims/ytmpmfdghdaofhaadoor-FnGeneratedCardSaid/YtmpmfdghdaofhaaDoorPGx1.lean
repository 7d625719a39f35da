-- Written by wip/pp.py, a program of this session, out of the translation. Not trusted: Lean checks it.
import Derived.Test.YtmpmfdghdaofhaaDoorPGx0
namespace Go.Proofs.YtmpmfdghdaofhaaDoor.PG
open Go.RowKit Go.Proofs.YtmpmfdghdaofhaaDoorW.PrintWords Go.Proofs.YtmpmfdghdaofhaaDoorW.PrintLast Go.Proofs.YtmpmfdghdaofhaaDoorW.PrintMore
attribute [local go_sem] max2_int min2_int max_two min_two max_three min_three max_four min_four   -- for this text's walks alone
attribute [local go_sem] Go.Proofs.YtmpmfdghdaofhaaDoor.Ext.wrap64_mod256 Go.Proofs.YtmpmfdghdaofhaaDoor.Ext.wrap64_mod32 Go.Proofs.YtmpmfdghdaofhaaDoor.Ext.i64_mod256 Go.Proofs.YtmpmfdghdaofhaaDoor.Ext.i64_mod32 Go.Proofs.YtmpmfdghdaofhaaDoor.Ext.i64_u8 Go.Proofs.YtmpmfdghdaofhaaDoor.Ext.w64_u8 Go.Proofs.YtmpmfdghdaofhaaDoor.Ext.i64_u32 Go.Proofs.YtmpmfdghdaofhaaDoor.Ext.w64_u32 
set_option linter.unusedVariables false
set_option linter.unusedSimpArgs false

/-! ### parser_NewTransitionTable: function 42 -/
def parser_NewTransitionTable.f (a0 : Int) : Option (List Int) := if a0 ≤ 0 then (if 4096 ≤ 281474976710656 then (some (List.replicate 4096 0)) else (none)) else (if 0 ≤ a0 then (if (a0 : Int).toNat ≤ 281474976710656 then (some (List.replicate (a0 : Int).toNat 0)) else (none)) else (none))
set_option maxHeartbeats 8000000 in
set_option maxRecDepth 100000 in
theorem parser_NewTransitionTable.calls (a0 : Int) (r : List Int) (w : World) (h : parser_NewTransitionTable.f a0 = some r) :
    Calls Tryd.prog 42 #[.int .i64 a0] w fun e w' => ∃ v0_ : Value, e = .returned (v0_) ∧ Kd.R (Kd.int .u8) 5 w' w.heap.size (fun _ => True) v0_ r ∧ Below w.heap.size w w' := by
  have HB := Aside0.mk (Below.refl w.heap.size w)
  have H : (if a0 ≤ 0 then (if 4096 ≤ 281474976710656 then (some (List.replicate 4096 0)) else (none)) else (if 0 ≤ a0 then (if (a0 : Int).toNat ≤ 281474976710656 then (some (List.replicate (a0 : Int).toNat 0)) else (none)) else (none))) = some r := h
  clear h
  by_cases c2 : a0 ≤ 0
  · rw [if_pos c2] at H
    have c2b0 : decide (a0 ≤ 0) = true := decide_eq_true c2
    clear c2
    by_cases c3 : 4096 ≤ 281474976710656
    · rw [if_pos c3] at H
      have c3b0 := eq_true c3
      have c3b1 : decide (4096 ≤ 281474976710656) = true := decide_eq_true c3
      clear c3
      obtain ⟨y101, hy101⟩ : ∃ y_ : List Int, y_ = (List.replicate 4096 0) := ⟨_, rfl⟩
      replace H : (some y101) = some r := by first | (rw [hy101]; with_reducible exact H) | (have H2_ := (Option.bind_some _ _).symm.trans H; rw [hy101]; with_reducible exact H2_) | (have H2_ := (Option.bind_some _ _).symm.trans H; with_reducible exact H2_) | with_reducible exact H | (rw [hy101]; exact H) | exact H
      have Ny101 := Aside0.mk hy101
      clear hy101
      obtain rfl := Option.some.inj H
      go_enter Tryd.func42, Tryd.ntmps42
      go_wp2_with (first | ((with_reducible refine gate_dst (N := 6) rfl ?_); refine Kd.R_make (Kd.int .u8) _ 5 rfl (N := 6) rfl 27 _ _ rfl 4096 rfl rfl Tryd.underlying27 (.int .u8 0) 1 info5 rfl (by decide) (by omega) 0 (ok := fun _ => True) (okp := fun _ => True) rfl (fun _ hk => hk) trivial (by omega) (by omega) (Below.refl _ _) (Nat.le_refl _) ?_; intro v102 w4 ho5 hb hg_ hnew_; clear hg_ hnew_; (first | rw [← Ny101.out] at ho5 | (simp only [Int.reduceToNat] at ho5; rw [← Ny101.out] at ho5)); have n0_ := Aside0.mk (Kd.R_lower ho5 (below_size (by repeat (first | (with_reducible first | exact HB.out | apply below_alloc | apply Go.Proofs.YtmpmfdghdaofhaaDoor.Ext.below_bytes | apply pw_below_drewN | apply below_drew1) | exact HB.out)))); have n1_ := Aside0.mk (below_step (by repeat (first | (with_reducible first | exact HB.out | apply below_alloc | apply Go.Proofs.YtmpmfdghdaofhaaDoor.Ext.below_bytes | apply pw_below_drewN | apply below_drew1) | exact HB.out)) hb); clear HB; have HO103 := n0_; have HB := n1_; clear n0_ n1_; clear hb ho5))
      go_ret
      exact ⟨_, by first | rfl | (simp [errW_none, errW_some] <;> rfl) | (simp [*, errW_none, errW_some] <;> rfl), by (with_reducible repeat (first | apply Kd.R_alloc | apply Go.Proofs.YtmpmfdghdaofhaaDoor.Ext.R_bytes | apply Kd.R_drewN | apply Kd.R_drew)); exact HO103.out, by repeat (first | (with_reducible first | exact HB.out | apply below_alloc | apply Go.Proofs.YtmpmfdghdaofhaaDoor.Ext.below_bytes | apply pw_below_drewN | apply below_drew1) | exact HB.out)⟩
    · rw [if_neg c3] at H
      exact absurd H (by simp)
  · rw [if_neg c2] at H
    have c2b0 : decide (a0 ≤ 0) = false := decide_eq_false c2
    clear c2
    by_cases c6 : 0 ≤ a0
    · rw [if_pos c6] at H
      have c6b0 := eq_true c6
      have c6b1 : decide (0 ≤ a0) = true := decide_eq_true c6
      clear c6
      by_cases c7 : (a0 : Int).toNat ≤ 281474976710656
      · rw [if_pos c7] at H
        have c7b0 := eq_true c7
        have c7b1 : decide ((a0 : Int).toNat ≤ 281474976710656) = true := decide_eq_true c7
        clear c7
        obtain ⟨y104, hy104⟩ : ∃ y_ : List Int, y_ = (List.replicate (a0 : Int).toNat 0) := ⟨_, rfl⟩
        replace H : (some y104) = some r := by first | (rw [hy104]; with_reducible exact H) | (have H2_ := (Option.bind_some _ _).symm.trans H; rw [hy104]; with_reducible exact H2_) | (have H2_ := (Option.bind_some _ _).symm.trans H; with_reducible exact H2_) | with_reducible exact H | (rw [hy104]; exact H) | exact H
        have Ny104 := Aside0.mk hy104
        clear hy104
        obtain rfl := Option.some.inj H
        go_enter Tryd.func42, Tryd.ntmps42
        go_wp2_with (first | ((with_reducible refine gate_dst (N := 6) rfl ?_); refine Kd.R_make (Kd.int .u8) _ 5 rfl (N := 6) rfl 27 _ _ rfl a0 rfl rfl Tryd.underlying27 (.int .u8 0) 1 info5 rfl (by decide) (by omega) 0 (ok := fun _ => True) (okp := fun _ => True) rfl (fun _ hk => hk) trivial (of_decide_eq_true (by first | (with_reducible assumption) | assumption)) (Nat.le_trans (Nat.mul_le_mul_right _ (of_decide_eq_true (by first | (with_reducible assumption) | assumption) : a0.toNat ≤ 281474976710656)) (by omega)) (Below.refl _ _) (Nat.le_refl _) ?_; intro v105 w8 ho9 hb hg_ hnew_; clear hg_ hnew_; (first | rw [← Ny104.out] at ho9 | (simp only [Int.reduceToNat] at ho9; rw [← Ny104.out] at ho9)); have n0_ := Aside0.mk (Kd.R_lower ho9 (below_size (by repeat (first | (with_reducible first | exact HB.out | apply below_alloc | apply Go.Proofs.YtmpmfdghdaofhaaDoor.Ext.below_bytes | apply pw_below_drewN | apply below_drew1) | exact HB.out)))); have n1_ := Aside0.mk (below_step (by repeat (first | (with_reducible first | exact HB.out | apply below_alloc | apply Go.Proofs.YtmpmfdghdaofhaaDoor.Ext.below_bytes | apply pw_below_drewN | apply below_drew1) | exact HB.out)) hb); clear HB; have HO106 := n0_; have HB := n1_; clear n0_ n1_; clear hb ho9))
        go_ret
        exact ⟨_, by first | rfl | (simp [errW_none, errW_some] <;> rfl) | (simp [*, errW_none, errW_some] <;> rfl), by (with_reducible repeat (first | apply Kd.R_alloc | apply Go.Proofs.YtmpmfdghdaofhaaDoor.Ext.R_bytes | apply Kd.R_drewN | apply Kd.R_drew)); exact HO106.out, by repeat (first | (with_reducible first | exact HB.out | apply below_alloc | apply Go.Proofs.YtmpmfdghdaofhaaDoor.Ext.below_bytes | apply pw_below_drewN | apply below_drew1) | exact HB.out)⟩
      · rw [if_neg c7] at H
        exact absurd H (by simp)
    · rw [if_neg c6] at H
      exact absurd H (by simp)

/-! ### parser_TransitionTable_SetDefault: function 43 -/
def parser_TransitionTable_SetDefault.l0 : Nat → List Int → Int → Int → Int → Int → Option (List Int)
  | 0, _, _, _, _, _ => none
  | k + 1, x0, x1, x2, x8, x9 => if x9 < x8 then (if 0 ≤ x9 then (if x9 < (x0.length : Int) then (parser_TransitionTable_SetDefault.l0 k (x0.set (x9 : Int).toNat (Go.bits .or .u8 ((x1 * 16) % 256) x2)) x1 x2 x8 (wrap64 (x9 + 1))) else (none)) else (none)) else (some x0)
def parser_TransitionTable_SetDefault.f (k : Nat) (l0 : List Int) (a1 : Int) (a2 : Int) : Option (List Int) := parser_TransitionTable_SetDefault.l0 k l0 a1 a2 (l0.length : Int) 0
theorem parser_TransitionTable_SetDefault.mono_l : ∀ k, (∀ y0 y1 y2 y3 y4, LeO (parser_TransitionTable_SetDefault.l0 k y0 y1 y2 y3 y4) (parser_TransitionTable_SetDefault.l0 (k + 1) y0 y1 y2 y3 y4))
  | 0 => fun _ _ _ _ _ r h => by simp [parser_TransitionTable_SetDefault.l0] at h
  | k + 1 => by
    have ih0 := parser_TransitionTable_SetDefault.mono_l k
    · intro y0 y1 y2 y3 y4
      unfold parser_TransitionTable_SetDefault.l0
      repeat' first
      | (with_reducible exact ih0 _ _ _ _ _)
      | (with_reducible exact LeO.refl _)
      | (with_reducible exact LeO.none _)
      | (with_reducible refine LeO.ite ?_ ?_)
      | (with_reducible refine LeO.bind ?_ (fun _ => ?_))
      | exact ih0 _ _ _ _ _
      | exact LeO.none _
      | refine LeO.ite ?_ ?_
      | refine LeO.bind ?_ (fun _ => ?_)
theorem parser_TransitionTable_SetDefault.mono : ∀ a0 a1 a2 k, LeO (parser_TransitionTable_SetDefault.f k a0 a1 a2) (parser_TransitionTable_SetDefault.f (k + 1) a0 a1 a2) := by
  intro a0 a1 a2 k
  have ih0 := parser_TransitionTable_SetDefault.mono_l k
  unfold parser_TransitionTable_SetDefault.f
  repeat' first
      | (with_reducible exact ih0 _ _ _ _ _)
      | (with_reducible exact LeO.refl _)
      | (with_reducible exact LeO.none _)
      | (with_reducible refine LeO.ite ?_ ?_)
      | (with_reducible refine LeO.bind ?_ (fun _ => ?_))
      | exact ih0 _ _ _ _ _
      | exact LeO.none _
      | refine LeO.ite ?_ ?_
      | refine LeO.bind ?_ (fun _ => ?_)
set_option maxHeartbeats 8000000 in
set_option maxRecDepth 100000 in
theorem parser_TransitionTable_SetDefault.calls (k : Nat) (P0_ : Nat → Prop) (u9000_ : Value) (l0 : List Int) (a1 : Int) (a2 : Int) (r : List Int) (w0 w : World) (hB : Below w0.heap.size w0 w) (ho0 : Kd.R (Kd.int .u8) 5 w w0.heap.size P0_ u9000_ l0) (h : parser_TransitionTable_SetDefault.f k l0 a1 a2 = some r) :
    Calls Tryd.prog 43 #[u9000_, .int .u8 a1, .int .u8 a2] w fun e w' => e = .returned (.tuple #[]) ∧ Kd.R (Kd.int .u8) 5 w' w0.heap.size (fun k_ => (P0_ k_ ∨ w.heap.size ≤ k_)) u9000_ r ∧ Below w0.heap.size w0 w' ∧ Kept w w' (fun k_ => P0_ k_) := by
  have HO0 := Aside0.mk (show Kd.R (Kd.int .u8) 5 w w0.heap.size (fun k_ => (P0_ k_ ∨ w.heap.size ≤ k_)) u9000_ l0 from Kd.R_mono ho0 (fun k_ hk => (.inl hk)))
  have HK := Aside0.mk (Kept.refl w (fun k_ => P0_ k_))
  have HW0 := Aside0.mk hB.size
  have HB := Aside0.mk hB
  clear hB
  have H : (parser_TransitionTable_SetDefault.l0 k l0 a1 a2 (l0.length : Int) 0) = some r := h
  clear h
  have H' := Aside0.mk H
  clear H
  obtain ⟨Ao4, co4, eo4⟩ := Kd.R_slice HO0.out
  subst eo4
  go_enter Tryd.func43, Tryd.ntmps43
  go_wp2
  go_loopg [9] k (fun kq v9 w' => ∃ (x0_1 : List Int) (x9_1 : Int), v9 = .int .i64 x9_1 ∧ Aside0 (parser_TransitionTable_SetDefault.l0 kq x0_1 a1 a2 (l0.length : Int) x9_1 = some r) ∧ Aside0 (kq ≤ k) ∧ Aside0 (Kd.R (Kd.int .u8) 5 w' w0.heap.size (fun k_ => (P0_ k_ ∨ w.heap.size ≤ k_)) (.slice Ao4 l0.length co4) x0_1) ∧ Aside0 (Kept w w' (fun k_ => P0_ k_)) ∧ Aside0 (Below w0.heap.size w0 w'))
  case atStart => exact ⟨(l0), (0), (by first | rfl | (simp; done) | (simp [*]; done)), H', ⟨Nat.le_refl _⟩, ⟨by (with_reducible repeat (first | apply Kd.R_alloc | apply Go.Proofs.YtmpmfdghdaofhaaDoor.Ext.R_bytes | apply Kd.R_drewN | apply Kd.R_drew)); exact HO0.out⟩, ⟨by repeat (first | (with_reducible first | exact HK.out | apply Kept.alloc | apply Kept.drewN | apply Kept.drew) | exact HK.out)⟩, ⟨by repeat (first | (with_reducible first | exact HB.out | apply below_alloc | apply Go.Proofs.YtmpmfdghdaofhaaDoor.Ext.below_bytes | apply pw_below_drewN | apply below_drew1) | exact HB.out)⟩⟩
  case round =>
    clear H'
    try clear p2
    try clear c4
    obtain ⟨x0_1, x9_1, rfl, HA, HK1, HO_0, HK, HB⟩ := hrel
    have hl0_1 := (Kd.R_reads' HO_0.out).1
    rw [hl0_1] at HO_0
    (try simp only [hl0_1])
    cases gk with
    | zero => exact absurd HA.out (by simp [parser_TransitionTable_SetDefault.l0])
    | succ k1 =>
      have H := HA.out
      clear HA
      simp only [parser_TransitionTable_SetDefault.l0] at H
      by_cases c5 : x9_1 < (l0.length : Int)
      · rw [if_pos c5] at H
        have c5b0 : decide (x9_1 < (l0.length : Int)) = true := decide_eq_true c5
        (try (have c5b90 := c5b0; simp only [hl0_1] at c5b90))
        clear c5
        by_cases c6 : 0 ≤ x9_1
        · rw [if_pos c6] at H
          have c6b0 : decide (0 ≤ x9_1) = true := decide_eq_true c6
          clear c6
          by_cases c7 : x9_1 < (x0_1.length : Int)
          · rw [if_pos c7] at H
            have c7b0 : decide (x9_1 < (x0_1.length : Int)) = true := decide_eq_true c7
            (try (have c7b90 := c7b0; simp only [hl0_1] at c7b90))
            clear c7
            obtain ⟨y107, hy107⟩ : ∃ y_ : List Int, y_ = (x0_1.set (x9_1 : Int).toNat (Go.bits .or .u8 ((a1 * 16) % 256) a2)) := ⟨_, rfl⟩
            replace H : (parser_TransitionTable_SetDefault.l0 k1 y107 a1 a2 (l0.length : Int) (wrap64 (x9_1 + 1))) = some r := by first | (rw [hy107]; with_reducible exact H) | (have H2_ := (Option.bind_some _ _).symm.trans H; rw [hy107]; with_reducible exact H2_) | (have H2_ := (Option.bind_some _ _).symm.trans H; with_reducible exact H2_) | with_reducible exact H | (rw [hy107]; exact H) | exact H
            have Ny107 := Aside0.mk hy107
            clear hy107
            have H' := Aside0.mk H
            clear H
            have p8 : 0 ≤ (x9_1 : Int) := of_decide_eq_true (by first | (with_reducible assumption) | assumption)
            have q8 : (x9_1 : Int) < ((x0_1.length : Int) : Int) := of_decide_eq_true (by first | (with_reducible assumption) | assumption)
            obtain ⟨go8, co8, eo8, gb8, gl8, cl8, HG8⟩ := Kd.R_form HO_0.out (by omega)
            (first | cases eo8 | (injection eo8 with ea_ en_ ec_; (first | subst ea_ | (injection ea_ with ea_; subst ea_)); subst ec_; clear en_))
            have GB8 := Aside0.mk gb8
            have GG8 := Aside0.mk HG8
            clear gb8 gl8 HG8
            have HMgo8 := Aside0.mk (show (P0_ go8 ∨ w.heap.size ≤ go8) from (HO_0.out.1 _ rfl))
            obtain ⟨hx8_0, hf8_0⟩ := Kd.R_celln 0 HO_0.out (x9_1 : Int) p8 q8
            replace p8 := eq_true p8
            replace q8 := eq_true q8
            have HP9 := Kd.R_putg HO_0.out (x9_1 : Int) (Go.bits .or .u8 ((a1 * 16) % 256) a2)
            go_wp2_with (first | ((with_reducible refine gate_store (t := 5) (p := 18) rfl ?_); refine store_event (t := 5) (p := 18) (v := ?vo_w10) (w1 := (wr.setCell ⟨go8, (x9_1 : Int).toNat, none⟩ (.int .u8 (Go.bits .or .u8 ((a1 * 16) % 256) a2)))) ?hg ?ho ?hn ?hr ?_; (case ho => rfl); (case hg => rfl); (case hn => rfl); (case hr => first | (go_simp; done) | (go_simp; rfl)); intro w10 hw; have hg : wr.grownBy w10 (some go8) := (by rw [hw]; exact HP9.2); have hp_ : Kd.R (Kd.int .u8) 5 w10 w0.heap.size (fun k_ => (P0_ k_ ∨ w.heap.size ≤ k_)) (.slice (some ⟨go8, 0, none⟩) x0_1.length co4) y107 := (by rw [hw, Ny107.out]; exact HP9.1); clear HP9; have n0_ := Aside0.mk (hp_); have n1_ := Aside0.mk ((by rw [hw]; exact below_set (HB.out) GB8.out : Below w0.heap.size w0 w10)); have n2_ := Aside0.mk (Kept.of_grown (S := (fun k_ => P0_ k_)) hg (by repeat (first | (with_reducible first | exact HK.out | apply Kept.alloc | apply Kept.drewN | apply Kept.drew) | exact HK.out)) (fun k_ e_ => (HO_0.out.1 k_ e_))); clear HO_0; clear HB; clear HK; have HO_0 := n0_; have HB := n1_; have HK := n2_; clear n0_ n1_ n2_; clear hg hw hp_))
            (try simp only [← hl0_1])
            go_roundg k1
            case measure => have := HK1.out; omega
            case rel => exact ⟨(y107), (wrap64 (x9_1 + 1)), (by first | rfl | (simp; done) | (simp [*]; done)), H', ⟨by have := HK1.out; omega⟩, ⟨by (try simp only [hl0_1]); (with_reducible repeat (first | apply Kd.R_alloc | apply Go.Proofs.YtmpmfdghdaofhaaDoor.Ext.R_bytes | apply Kd.R_drewN | apply Kd.R_drew)); exact HO_0.out⟩, ⟨by repeat (first | (with_reducible first | exact HK.out | apply Kept.alloc | apply Kept.drewN | apply Kept.drew) | exact HK.out)⟩, ⟨by repeat (first | (with_reducible first | exact HB.out | apply below_alloc | apply Go.Proofs.YtmpmfdghdaofhaaDoor.Ext.below_bytes | apply pw_below_drewN | apply below_drew1) | exact HB.out)⟩⟩
          · rw [if_neg c7] at H
            exact absurd H (by simp)
        · rw [if_neg c6] at H
          exact absurd H (by simp)
      · rw [if_neg c5] at H
        have c5b0 : decide (x9_1 < (l0.length : Int)) = false := decide_eq_false c5
        (try (have c5b90 := c5b0; simp only [hl0_1] at c5b90))
        clear c5
        obtain rfl := Option.some.inj H
        go_wp2
        first | go_end0 | (show bodyPost _ _ _ Exit.normal _ _; refine bodyPost_end (results_none rfl _ _ _) rfl ?_) | ((try simp only [Exit.inBlock, Exit.then]); refine bodyPost_ret (results_none rfl _ _ _) rfl ?_)
        exact ⟨by first | rfl | (simp [errW_none, errW_some] <;> rfl) | (simp [*, errW_none, errW_some] <;> rfl), (by first | exact (by (with_reducible repeat (first | apply Kd.R_alloc | apply Go.Proofs.YtmpmfdghdaofhaaDoor.Ext.R_bytes | apply Kd.R_drewN | apply Kd.R_drew)); exact HO_0.out) | (simp only [hl0_1]; exact (by (with_reducible repeat (first | apply Kd.R_alloc | apply Go.Proofs.YtmpmfdghdaofhaaDoor.Ext.R_bytes | apply Kd.R_drewN | apply Kd.R_drew)); exact HO_0.out))), by repeat (first | (with_reducible first | exact HB.out | apply below_alloc | apply Go.Proofs.YtmpmfdghdaofhaaDoor.Ext.below_bytes | apply pw_below_drewN | apply below_drew1) | exact HB.out), by repeat (first | (with_reducible first | exact HK.out | apply Kept.alloc | apply Kept.drewN | apply Kept.drew) | exact HK.out)⟩

/-! ### parser_r: function 44 -/
def parser_r.l0 : Nat → Int → List Int → Int → Option (List Int)
  | 0, _, _, _ => none
  | k + 1, x1, x5, x6 => if x6 ≤ (wrap64 (x1)) then (if x5.length < 140737488355328 then (parser_r.l0 k x1 (x5 ++ [(x6) % 256]) (wrap64 (x6 + 1))) else (none)) else (some x5)
def parser_r.f (k : Nat) (a0 : Int) (a1 : Int) : Option (List Int) := parser_r.l0 k a1 ([] : List Int) (wrap64 (a0))
theorem parser_r.mono_l : ∀ k, (∀ y0 y1 y2, LeO (parser_r.l0 k y0 y1 y2) (parser_r.l0 (k + 1) y0 y1 y2))
  | 0 => fun _ _ _ r h => by simp [parser_r.l0] at h
  | k + 1 => by
    have ih0 := parser_r.mono_l k
    · intro y0 y1 y2
      unfold parser_r.l0
      repeat' first
      | (with_reducible exact ih0 _ _ _)
      | (with_reducible exact LeO.refl _)
      | (with_reducible exact LeO.none _)
      | (with_reducible refine LeO.ite ?_ ?_)
      | (with_reducible refine LeO.bind ?_ (fun _ => ?_))
      | exact ih0 _ _ _
      | exact LeO.none _
      | refine LeO.ite ?_ ?_
      | refine LeO.bind ?_ (fun _ => ?_)
theorem parser_r.mono : ∀ a0 a1 k, LeO (parser_r.f k a0 a1) (parser_r.f (k + 1) a0 a1) := by
  intro a0 a1 k
  have ih0 := parser_r.mono_l k
  unfold parser_r.f
  repeat' first
      | (with_reducible exact ih0 _ _ _)
      | (with_reducible exact LeO.refl _)
      | (with_reducible exact LeO.none _)
      | (with_reducible refine LeO.ite ?_ ?_)
      | (with_reducible refine LeO.bind ?_ (fun _ => ?_))
      | exact ih0 _ _ _
      | exact LeO.none _
      | refine LeO.ite ?_ ?_
      | refine LeO.bind ?_ (fun _ => ?_)
set_option maxHeartbeats 8000000 in
set_option maxRecDepth 100000 in
theorem parser_r.calls (k : Nat) (a0 : Int) (a1 : Int) (r : List Int) (w : World) (h : parser_r.f k a0 a1 = some r) :
    Calls Tryd.prog 44 #[.int .u8 a0, .int .u8 a1] w fun e w' => ∃ v0_ : Value, e = .returned (v0_) ∧ Kd.R (Kd.int .u8) 5 w' w.heap.size (fun _ => True) v0_ r ∧ Below w.heap.size w w' := by
  have HB := Aside0.mk (Below.refl w.heap.size w)
  have H : (parser_r.l0 k a1 ([] : List Int) (wrap64 (a0))) = some r := h
  clear h
  have H' := Aside0.mk H
  clear H
  go_enter Tryd.func44, Tryd.ntmps44
  go_wp2
  go_loopg [5, 6] k (fun kq v5 v6 w' => ∃ (x5_1 : List Int) (x6_1 : Int), v6 = .int .i64 x6_1 ∧ Aside0 (parser_r.l0 kq a1 x5_1 x6_1 = some r) ∧ Aside0 (kq ≤ k) ∧ Aside0 (Kd.R (Kd.int .u8) 5 w' w.heap.size (fun _ => True) v5 x5_1) ∧ Aside0 (Below w.heap.size w w'))
  case atStart => exact ⟨(([] : List Int)), (wrap64 (a0)), (by first | rfl | (simp; done) | (simp [*]; done)), H', ⟨Nat.le_refl _⟩, ⟨by first | exact Kd.R_nil _ _ _ _ _ | exact Kd.N_nil _ _ _ _ _ | exact Kd.V_nil _ _ _ _ _ | exact Kd.Q_nil _ _ _ _ _ | exact Kd.S_nil _ _ _ _ _⟩, ⟨by repeat (first | (with_reducible first | exact HB.out | apply below_alloc | apply Go.Proofs.YtmpmfdghdaofhaaDoor.Ext.below_bytes | apply pw_below_drewN | apply below_drew1) | exact HB.out)⟩⟩
  case round =>
    clear H'
    try clear p2
    obtain ⟨x5_1, x6_1, rfl, HA, HK1, HO_5, HB⟩ := hrel
    cases gk with
    | zero => exact absurd HA.out (by simp [parser_r.l0])
    | succ k1 =>
      have H := HA.out
      clear HA
      simp only [parser_r.l0] at H
      by_cases c3 : x6_1 ≤ (wrap64 (a1))
      · rw [if_pos c3] at H
        have c3b0 : decide (x6_1 ≤ (wrap64 (a1))) = true := decide_eq_true c3
        clear c3
        by_cases c4 : x5_1.length < 140737488355328
        · rw [if_pos c4] at H
          have LMc4 := Aside0.mk c4
          clear c4
          obtain ⟨y108, hy108⟩ : ∃ y_ : List Int, y_ = (x5_1 ++ [(x6_1) % 256]) := ⟨_, rfl⟩
          replace H : (parser_r.l0 k1 a1 y108 (wrap64 (x6_1 + 1))) = some r := by first | (rw [hy108]; with_reducible exact H) | (have H2_ := (Option.bind_some _ _).symm.trans H; rw [hy108]; with_reducible exact H2_) | (have H2_ := (Option.bind_some _ _).symm.trans H; with_reducible exact H2_) | with_reducible exact H | (rw [hy108]; exact H) | exact H
          have Ny108 := Aside0.mk hy108
          clear hy108
          have H' := Aside0.mk H
          clear H
          go_wp2_with (first | ((with_reducible refine gate_builtin (b := .append) (xs := #[.tmp 15, .tmp 18]) rfl ?_); at_builtin; refine Kd.R_append (Kd.int .u8) (w0 := w) w.heap.size rfl (.tmp 15) (.tmp 18) 27 5 (.int .u8 0) 1 rfl Tryd.underlying27 info5 rfl (by decide) (by omega) u5 x5_1 ((x6_1) % 256) [.int .u8 ((x6_1) % 256)] (fun _ => True) (fun _ => False) rfl rfl ?aP (fun _ hk => hk.elim) ?aF ?aO ?aB ?aS ?aL ?_; (case aP => exact rfl); (case aB => exact (by repeat (first | (with_reducible first | exact HB.out | apply below_alloc | apply Go.Proofs.YtmpmfdghdaofhaaDoor.Ext.below_bytes | apply pw_below_drewN | apply below_drew1) | exact HB.out))); (case aF => exact (fun _ _ => trivial)); (case aO => exact (by (with_reducible repeat (first | apply Kd.R_alloc | apply Go.Proofs.YtmpmfdghdaofhaaDoor.Ext.R_bytes | apply Kd.R_drewN | apply Kd.R_drew)); exact HO_5.out)); (case aS => exact (below_size (by repeat (first | (with_reducible first | exact HB.out | apply below_alloc | apply Go.Proofs.YtmpmfdghdaofhaaDoor.Ext.below_bytes | apply pw_below_drewN | apply below_drew1) | exact HB.out)))); (case aL => have := LMc4.out; omega); intro v109 w5 ho hb hg hat; rw [← Ny108.out] at ho; have n0_ := Aside0.mk (hb); have n1_ := Aside0.mk (ho); clear HB; clear HO_5; have HB := n0_; have HO110 := n1_; clear n0_ n1_; clear ho hb hg hat))
          go_roundg k1
          case measure => have := HK1.out; omega
          case rel => exact ⟨(y108), (wrap64 (x6_1 + 1)), (by first | rfl | (simp; done) | (simp [*]; done)), H', ⟨by have := HK1.out; omega⟩, ⟨by (with_reducible repeat (first | apply Kd.R_alloc | apply Go.Proofs.YtmpmfdghdaofhaaDoor.Ext.R_bytes | apply Kd.R_drewN | apply Kd.R_drew)); exact HO110.out⟩, ⟨by repeat (first | (with_reducible first | exact HB.out | apply below_alloc | apply Go.Proofs.YtmpmfdghdaofhaaDoor.Ext.below_bytes | apply pw_below_drewN | apply below_drew1) | exact HB.out)⟩⟩
        · rw [if_neg c4] at H
          exact absurd H (by simp)
      · rw [if_neg c3] at H
        have c3b0 : decide (x6_1 ≤ (wrap64 (a1))) = false := decide_eq_false c3
        clear c3
        obtain rfl := Option.some.inj H
        go_wp2
        go_ret
        exact ⟨_, by first | rfl | (simp [errW_none, errW_some] <;> rfl) | (simp [*, errW_none, errW_some] <;> rfl), by (with_reducible repeat (first | apply Kd.R_alloc | apply Go.Proofs.YtmpmfdghdaofhaaDoor.Ext.R_bytes | apply Kd.R_drewN | apply Kd.R_drew)); exact HO_5.out, by repeat (first | (with_reducible first | exact HB.out | apply below_alloc | apply Go.Proofs.YtmpmfdghdaofhaaDoor.Ext.below_bytes | apply pw_below_drewN | apply below_drew1) | exact HB.out)⟩

/-! ### parser_TransitionTable_AddOne: function 47 -/
def parser_TransitionTable_AddOne.f (l0 : List Int) (a1 : Int) (a2 : Int) (a3 : Int) (a4 : Int) : Option (List Int) := if 0 ≤ (Go.bits .or .i64 (wrap64 ((wrap64 (a2)) * 256)) (wrap64 (a1))) then (if (Go.bits .or .i64 (wrap64 ((wrap64 (a2)) * 256)) (wrap64 (a1))) < (l0.length : Int) then (some (l0.set ((Go.bits .or .i64 (wrap64 ((wrap64 (a2)) * 256)) (wrap64 (a1))) : Int).toNat (Go.bits .or .u8 ((a3 * 16) % 256) a4))) else (none)) else (none)
set_option maxHeartbeats 8000000 in
set_option maxRecDepth 100000 in
theorem parser_TransitionTable_AddOne.calls (P0_ : Nat → Prop) (u9000_ : Value) (l0 : List Int) (a1 : Int) (a2 : Int) (a3 : Int) (a4 : Int) (r : List Int) (w0 w : World) (hB : Below w0.heap.size w0 w) (ho0 : Kd.R (Kd.int .u8) 5 w w0.heap.size P0_ u9000_ l0) (h : parser_TransitionTable_AddOne.f l0 a1 a2 a3 a4 = some r) :
    Calls Tryd.prog 47 #[u9000_, .int .u8 a1, .int .u8 a2, .int .u8 a3, .int .u8 a4] w fun e w' => e = .returned (.tuple #[]) ∧ Kd.R (Kd.int .u8) 5 w' w0.heap.size (fun k_ => (P0_ k_ ∨ w.heap.size ≤ k_)) u9000_ r ∧ Below w0.heap.size w0 w' ∧ Kept w w' (fun k_ => P0_ k_) := by
  have HO0 := Aside0.mk (show Kd.R (Kd.int .u8) 5 w w0.heap.size (fun k_ => (P0_ k_ ∨ w.heap.size ≤ k_)) u9000_ l0 from Kd.R_mono ho0 (fun k_ hk => (.inl hk)))
  have HK := Aside0.mk (Kept.refl w (fun k_ => P0_ k_))
  have HW0 := Aside0.mk hB.size
  have HB := Aside0.mk hB
  clear hB
  have H : (if 0 ≤ (Go.bits .or .i64 (wrap64 ((wrap64 (a2)) * 256)) (wrap64 (a1))) then (if (Go.bits .or .i64 (wrap64 ((wrap64 (a2)) * 256)) (wrap64 (a1))) < (l0.length : Int) then (some (l0.set ((Go.bits .or .i64 (wrap64 ((wrap64 (a2)) * 256)) (wrap64 (a1))) : Int).toNat (Go.bits .or .u8 ((a3 * 16) % 256) a4))) else (none)) else (none)) = some r := h
  clear h
  obtain ⟨ji6, hji6⟩ : ∃ j_ : Int, (Go.bits .or .i64 (wrap64 ((wrap64 (a2)) * 256)) (wrap64 (a1))) = j_ := ⟨_, rfl⟩
  replace H : (if 0 ≤ (ji6) then (if (ji6) < (l0.length : Int) then (some (l0.set ((ji6) : Int).toNat (Go.bits .or .u8 ((a3 * 16) % 256) a4))) else (none)) else (none)) = some r := by first | (rw [hji6] at H; exact H) | (simp only [hji6] at H ⊢; exact H)
  by_cases c7 : 0 ≤ (ji6)
  · rw [if_pos c7] at H
    have c7b0 : decide (0 ≤ (ji6)) = true := decide_eq_true c7
    clear c7
    by_cases c8 : (ji6) < (l0.length : Int)
    · rw [if_pos c8] at H
      have c8b0 : decide ((ji6) < (l0.length : Int)) = true := decide_eq_true c8
      clear c8
      obtain ⟨y111, hy111⟩ : ∃ y_ : List Int, y_ = (l0.set ((ji6) : Int).toNat (Go.bits .or .u8 ((a3 * 16) % 256) a4)) := ⟨_, rfl⟩
      replace H : (some y111) = some r := by first | (rw [hy111]; with_reducible exact H) | (have H2_ := (Option.bind_some _ _).symm.trans H; rw [hy111]; with_reducible exact H2_) | (have H2_ := (Option.bind_some _ _).symm.trans H; with_reducible exact H2_) | with_reducible exact H | (rw [hy111]; exact H) | exact H
      have Ny111 := Aside0.mk hy111
      clear hy111
      obtain rfl := Option.some.inj H
      have p9 : 0 ≤ ((ji6) : Int) := of_decide_eq_true (by first | (with_reducible assumption) | assumption)
      have q9 : ((ji6) : Int) < ((l0.length : Int) : Int) := of_decide_eq_true (by first | (with_reducible assumption) | assumption)
      obtain ⟨go9, co9, eo9, gb9, gl9, cl9, HG9⟩ := Kd.R_form HO0.out (by omega)
      (first | cases eo9 | (injection eo9 with ea_ en_ ec_; (first | subst ea_ | (injection ea_ with ea_; subst ea_)); subst ec_; clear en_))
      have GB9 := Aside0.mk gb9
      have GG9 := Aside0.mk HG9
      clear gb9 gl9 HG9
      have HMgo9 := Aside0.mk (show (P0_ go9 ∨ w.heap.size ≤ go9) from (HO0.out.1 _ rfl))
      obtain ⟨hx9_0, hf9_0⟩ := Kd.R_celln 0 HO0.out ((ji6) : Int) p9 q9
      replace p9 := eq_true p9
      replace q9 := eq_true q9
      have HP10 := Kd.R_putg HO0.out ((ji6) : Int) (Go.bits .or .u8 ((a3 * 16) % 256) a4)
      go_enter Tryd.func47, Tryd.ntmps47
      go_wp2_with (first | ((with_reducible refine gate_store (t := 5) (p := 25) rfl ?_); refine store_event (t := 5) (p := 25) (v := ?vo_w11) (w1 := (w.setCell ⟨go9, ((ji6) : Int).toNat, none⟩ (.int .u8 (Go.bits .or .u8 ((a3 * 16) % 256) a4)))) ?hg ?ho ?hn ?hr ?_; (case ho => rfl); (case hg => rfl); (case hn => rfl); (case hr => first | (go_simp; done) | (go_simp; rfl)); intro w11 hw; have hg : w.grownBy w11 (some go9) := (by rw [hw]; exact HP10.2); have hp_ : Kd.R (Kd.int .u8) 5 w11 w0.heap.size (fun k_ => (P0_ k_ ∨ w.heap.size ≤ k_)) (.slice (some ⟨go9, 0, none⟩) l0.length co9) y111 := (by rw [hw, Ny111.out]; exact HP10.1); clear HP10; have n0_ := Aside0.mk (hp_); have n1_ := Aside0.mk ((by rw [hw]; exact below_set (HB.out) GB9.out : Below w0.heap.size w0 w11)); have n2_ := Aside0.mk (Kept.of_grown (S := (fun k_ => P0_ k_)) hg (by repeat (first | (with_reducible first | exact HK.out | apply Kept.alloc | apply Kept.drewN | apply Kept.drew) | exact HK.out)) (fun k_ e_ => (HO0.out.1 k_ e_))); clear HO0; clear HB; clear HK; have HO0 := n0_; have HB := n1_; have HK := n2_; clear n0_ n1_ n2_; clear hg hw hp_))
      first | go_end0 | (show bodyPost _ _ _ Exit.normal _ _; refine bodyPost_end (results_none rfl _ _ _) rfl ?_) | ((try simp only [Exit.inBlock, Exit.then]); refine bodyPost_ret (results_none rfl _ _ _) rfl ?_)
      exact ⟨by first | rfl | (simp [errW_none, errW_some] <;> rfl) | (simp only [← hji6]; first | rfl | (simp [errW_none, errW_some] <;> rfl)) | (simp [*, errW_none, errW_some] <;> rfl), by (with_reducible repeat (first | apply Kd.R_alloc | apply Go.Proofs.YtmpmfdghdaofhaaDoor.Ext.R_bytes | apply Kd.R_drewN | apply Kd.R_drew)); exact HO0.out, by repeat (first | (with_reducible first | exact HB.out | apply below_alloc | apply Go.Proofs.YtmpmfdghdaofhaaDoor.Ext.below_bytes | apply pw_below_drewN | apply below_drew1) | exact HB.out), by repeat (first | (with_reducible first | exact HK.out | apply Kept.alloc | apply Kept.drewN | apply Kept.drew) | exact HK.out)⟩
    · rw [if_neg c8] at H
      exact absurd H (by simp)
  · rw [if_neg c7] at H
    exact absurd H (by simp)

/-! ### parser_TransitionTable_AddMany: function 45 -/
def parser_TransitionTable_AddMany.l0 : Nat → List Int → Int → Int → Int → List Int → Int → Int → Option (List Int)
  | 0, _, _, _, _, _, _, _ => none
  | k + 1, x0, x2, x3, x4, x12, x13, x14 => if x14 < x13 then (if 0 ≤ x14 then (if x14 < (x12.length : Int) then ((parser_TransitionTable_AddOne.f x0 (rd x12 x14) x2 x3 x4).bind fun t113 => (parser_TransitionTable_AddMany.l0 k t113 x2 x3 x4 x12 x13 (wrap64 (x14 + 1)))) else (none)) else (none)) else (some x0)
def parser_TransitionTable_AddMany.f (k : Nat) (l0 : List Int) (l1 : List Int) (a2 : Int) (a3 : Int) (a4 : Int) : Option (List Int) := parser_TransitionTable_AddMany.l0 k l0 a2 a3 a4 l1 (l1.length : Int) 0
theorem parser_TransitionTable_AddMany.mono_l : ∀ k, (∀ y0 y1 y2 y3 y4 y5 y6, LeO (parser_TransitionTable_AddMany.l0 k y0 y1 y2 y3 y4 y5 y6) (parser_TransitionTable_AddMany.l0 (k + 1) y0 y1 y2 y3 y4 y5 y6))
  | 0 => fun _ _ _ _ _ _ _ r h => by simp [parser_TransitionTable_AddMany.l0] at h
  | k + 1 => by
    have ih0 := parser_TransitionTable_AddMany.mono_l k
    · intro y0 y1 y2 y3 y4 y5 y6
      unfold parser_TransitionTable_AddMany.l0
      repeat' first
      | (with_reducible exact ih0 _ _ _ _ _ _ _)
      | (with_reducible exact LeO.refl _)
      | (with_reducible exact LeO.none _)
      | (with_reducible refine LeO.ite ?_ ?_)
      | (with_reducible refine LeO.bind ?_ (fun _ => ?_))
      | exact ih0 _ _ _ _ _ _ _
      | exact LeO.none _
      | refine LeO.ite ?_ ?_
      | refine LeO.bind ?_ (fun _ => ?_)
theorem parser_TransitionTable_AddMany.mono : ∀ a0 a1 a2 a3 a4 k, LeO (parser_TransitionTable_AddMany.f k a0 a1 a2 a3 a4) (parser_TransitionTable_AddMany.f (k + 1) a0 a1 a2 a3 a4) := by
  intro a0 a1 a2 a3 a4 k
  have ih0 := parser_TransitionTable_AddMany.mono_l k
  unfold parser_TransitionTable_AddMany.f
  repeat' first
      | (with_reducible exact ih0 _ _ _ _ _ _ _)
      | (with_reducible exact LeO.refl _)
      | (with_reducible exact LeO.none _)
      | (with_reducible refine LeO.ite ?_ ?_)
      | (with_reducible refine LeO.bind ?_ (fun _ => ?_))
      | exact ih0 _ _ _ _ _ _ _
      | exact LeO.none _
      | refine LeO.ite ?_ ?_
      | refine LeO.bind ?_ (fun _ => ?_)
set_option maxHeartbeats 8000000 in
set_option maxRecDepth 100000 in
theorem parser_TransitionTable_AddMany.calls (k : Nat) (P0_ : Nat → Prop) (u9000_ : Value) (l0 : List Int) (A1 : Option Addr) (c1 : Nat) (l1 : List Int) (a2 : Int) (a3 : Int) (a4 : Int) (r : List Int) (w0 w : World) (hB : Below w0.heap.size w0 w) (ho0 : Kd.R (Kd.int .u8) 5 w w0.heap.size P0_ u9000_ l0) (hr1 : ∀ W_, Kept w W_ (fun k_ => P0_ k_) → Kd.C (Kd.int .u8) W_ A1 l1.length l1) (hc1 : l1.length ≤ c1) (h : parser_TransitionTable_AddMany.f k l0 l1 a2 a3 a4 = some r) :
    Calls Tryd.prog 45 #[u9000_, .slice A1 l1.length c1, .int .u8 a2, .int .u8 a3, .int .u8 a4] w fun e w' => e = .returned (.tuple #[]) ∧ Kd.R (Kd.int .u8) 5 w' w0.heap.size (fun k_ => (P0_ k_ ∨ w.heap.size ≤ k_)) u9000_ r ∧ Below w0.heap.size w0 w' ∧ Kept w w' (fun k_ => P0_ k_) := by
  have HO0 := Aside0.mk (show Kd.R (Kd.int .u8) 5 w w0.heap.size (fun k_ => (P0_ k_ ∨ w.heap.size ≤ k_)) u9000_ l0 from Kd.R_mono ho0 (fun k_ hk => (.inl hk)))
  have HR1 := Aside0.mk hr1
  have HC1 := Aside0.mk hc1
  clear hr1 hc1
  have HK := Aside0.mk (Kept.refl w (fun k_ => P0_ k_))
  have HW0 := Aside0.mk hB.size
  have HB := Aside0.mk hB
  clear hB
  have H : (parser_TransitionTable_AddMany.l0 k l0 a2 a3 a4 l1 (l1.length : Int) 0) = some r := h
  clear h
  have H' := Aside0.mk H
  clear H
  go_enter Tryd.func45, Tryd.ntmps45
  go_wp2
  go_loopg [14] k (fun kq v14 w' => ∃ (x0_1 : List Int) (x14_1 : Int), v14 = .int .i64 x14_1 ∧ Aside0 (parser_TransitionTable_AddMany.l0 kq x0_1 a2 a3 a4 l1 (l1.length : Int) x14_1 = some r) ∧ Aside0 (kq ≤ k) ∧ Aside0 (Kd.R (Kd.int .u8) 5 w' w0.heap.size (fun k_ => (P0_ k_ ∨ w.heap.size ≤ k_)) u9000_ x0_1) ∧ Aside0 (Kept w w' (fun k_ => P0_ k_)) ∧ Aside0 (Below w0.heap.size w0 w'))
  case atStart => exact ⟨(l0), (0), (by first | rfl | (simp; done) | (simp [*]; done)), H', ⟨Nat.le_refl _⟩, ⟨by (with_reducible repeat (first | apply Kd.R_alloc | apply Go.Proofs.YtmpmfdghdaofhaaDoor.Ext.R_bytes | apply Kd.R_drewN | apply Kd.R_drew)); exact HO0.out⟩, ⟨by repeat (first | (with_reducible first | exact HK.out | apply Kept.alloc | apply Kept.drewN | apply Kept.drew) | exact HK.out)⟩, ⟨by repeat (first | (with_reducible first | exact HB.out | apply below_alloc | apply Go.Proofs.YtmpmfdghdaofhaaDoor.Ext.below_bytes | apply pw_below_drewN | apply below_drew1) | exact HB.out)⟩⟩
  case round =>
    clear H'
    try clear c1
    try clear p2
    try clear c4
    obtain ⟨x0_1, x14_1, rfl, HA, HK1, HO_0, HK, HB⟩ := hrel
    cases gk with
    | zero => exact absurd HA.out (by simp [parser_TransitionTable_AddMany.l0])
    | succ k1 =>
      have H := HA.out
      clear HA
      simp only [parser_TransitionTable_AddMany.l0] at H
      by_cases c6 : x14_1 < (l1.length : Int)
      · rw [if_pos c6] at H
        have c6b0 : decide (x14_1 < (l1.length : Int)) = true := decide_eq_true c6
        clear c6
        by_cases c7 : 0 ≤ x14_1
        · rw [if_pos c7] at H
          have c7b0 : decide (0 ≤ x14_1) = true := decide_eq_true c7
          clear c7
          by_cases c8 : x14_1 < (l1.length : Int)
          · rw [if_pos c8] at H
            have c8b0 : decide (x14_1 < (l1.length : Int)) = true := decide_eq_true c8
            clear c8
            replace H := Option.bind_eq_some_iff.mp H
            obtain ⟨t113, A90, H⟩ := H
            replace H : (parser_TransitionTable_AddMany.l0 k1 t113 a2 a3 a4 l1 (l1.length : Int) (wrap64 (x14_1 + 1))) = some r := H
            have A9 := Aside0.mk A90
            clear A90
            have H' := Aside0.mk H
            clear H
            have p112 : 0 ≤ (x14_1 : Int) := of_decide_eq_true (by first | (with_reducible assumption) | assumption)
            have q112 : x14_1 < (l1.length : Int) := of_decide_eq_true (by first | (with_reducible assumption) | assumption)
            obtain ⟨ad112, e112, hx112_0⟩ := Kd.at_int (Kd.C_kept_now HR1.out HK.out) x14_1 p112 q112
            cases e112
            replace p112 := eq_true p112
            replace q112 := eq_true q112
            obtain ⟨Ao10, co10, eo10⟩ := Kd.R_slice HO_0.out
            subst eo10
            go_wp2_with (first | ((with_reducible refine gate_callee (f := 47) rfl ?_); refine goesL_ (some 23) rfl rfl Tryd.func47 (by kernel_rfl) rfl #[.slice Ao10 x0_1.length co10, .int .u8 (rd l1 x14_1), .int .u8 a2, .int .u8 a3, .int .u8 a4] rfl (by (try simp only [List.map_toArray, List.map_cons, List.map_nil]); first | done | rfl | (simp only [List.length_drop, List.length_take]; rfl) | (simp [Act.eval, *]; done) | (simp [Act.eval, *]; unfold wrap64; omega)) ?_; (with_reducible refine (parser_TransitionTable_AddOne.calls (fun k_ => some k_ = (.slice Ao10 x0_1.length co10 : Value).ownBlock) (.slice Ao10 x0_1.length co10) x0_1 (rd l1 x14_1) a2 a3 a4 t113 w0 _ ?side1 ?side2 A9.out).mono ?_); (case side1 => repeat (first | (with_reducible first | exact HB.out | apply below_alloc | apply Go.Proofs.YtmpmfdghdaofhaaDoor.Ext.below_bytes | apply pw_below_drewN | apply below_drew1) | exact HB.out)); (case side2 => exact Kd.R_tight rfl HO_0.out); rintro e w11 ⟨rfl, hy0, hb, hkp⟩; refine ⟨_, rfl, ?_⟩; have n0_ := Aside0.mk (Kd.R_reok rfl hy0 (fun k_ e_ => HO_0.out.1 k_ e_)); have n1_ := Aside0.mk (Kept.then_ (S := (fun k_ => P0_ k_)) (by repeat (first | (with_reducible first | exact HK.out | apply Kept.alloc | apply Kept.drewN | apply Kept.drew) | exact HK.out)) hkp (fun k_ hs_ => (fun e_ => (HO_0.out.1 k_ e_.symm)) hs_)); have n2_ := Aside0.mk (hb); clear HO_0; clear HK; clear HB; have HO_0 := n0_; have HK := n1_; have HB := n2_; clear n0_ n1_ n2_; (try clear hb); (try clear hkp); (try clear hy0)))
            go_roundg k1
            case measure => have := HK1.out; omega
            case rel => exact ⟨(t113), (wrap64 (x14_1 + 1)), (by first | rfl | (simp; done) | (simp [*]; done)), H', ⟨by have := HK1.out; omega⟩, ⟨by (with_reducible repeat (first | apply Kd.R_alloc | apply Go.Proofs.YtmpmfdghdaofhaaDoor.Ext.R_bytes | apply Kd.R_drewN | apply Kd.R_drew)); exact HO_0.out⟩, ⟨by repeat (first | (with_reducible first | exact HK.out | apply Kept.alloc | apply Kept.drewN | apply Kept.drew) | exact HK.out)⟩, ⟨by repeat (first | (with_reducible first | exact HB.out | apply below_alloc | apply Go.Proofs.YtmpmfdghdaofhaaDoor.Ext.below_bytes | apply pw_below_drewN | apply below_drew1) | exact HB.out)⟩⟩
          · rw [if_neg c8] at H
            exact absurd H (by simp)
        · rw [if_neg c7] at H
          exact absurd H (by simp)
      · rw [if_neg c6] at H
        have c6b0 : decide (x14_1 < (l1.length : Int)) = false := decide_eq_false c6
        clear c6
        obtain rfl := Option.some.inj H
        go_wp2
        first | go_end0 | (show bodyPost _ _ _ Exit.normal _ _; refine bodyPost_end (results_none rfl _ _ _) rfl ?_) | ((try simp only [Exit.inBlock, Exit.then]); refine bodyPost_ret (results_none rfl _ _ _) rfl ?_)
        exact ⟨by first | rfl | (simp [errW_none, errW_some] <;> rfl) | (simp [*, errW_none, errW_some] <;> rfl), by (with_reducible repeat (first | apply Kd.R_alloc | apply Go.Proofs.YtmpmfdghdaofhaaDoor.Ext.R_bytes | apply Kd.R_drewN | apply Kd.R_drew)); exact HO_0.out, by repeat (first | (with_reducible first | exact HB.out | apply below_alloc | apply Go.Proofs.YtmpmfdghdaofhaaDoor.Ext.below_bytes | apply pw_below_drewN | apply below_drew1) | exact HB.out), by repeat (first | (with_reducible first | exact HK.out | apply Kept.alloc | apply Kept.drewN | apply Kept.drew) | exact HK.out)⟩

/-! ### parser_TransitionTable_AddRange: function 46 -/
def parser_TransitionTable_AddRange.l0 : Nat → List Int → Int → Int → Int → Int → Int → Option (List Int)
  | 0, _, _, _, _, _, _ => none
  | k + 1, x0, x2, x3, x4, x5, x12 => if x12 ≤ (wrap64 (x2)) then ((parser_TransitionTable_AddOne.f x0 ((x12) % 256) x3 x4 x5).bind fun t114 => (parser_TransitionTable_AddRange.l0 k t114 x2 x3 x4 x5 (wrap64 (x12 + 1)))) else (some x0)
def parser_TransitionTable_AddRange.f (k : Nat) (l0 : List Int) (a1 : Int) (a2 : Int) (a3 : Int) (a4 : Int) (a5 : Int) : Option (List Int) := parser_TransitionTable_AddRange.l0 k l0 a2 a3 a4 a5 (wrap64 (a1))
theorem parser_TransitionTable_AddRange.mono_l : ∀ k, (∀ y0 y1 y2 y3 y4 y5, LeO (parser_TransitionTable_AddRange.l0 k y0 y1 y2 y3 y4 y5) (parser_TransitionTable_AddRange.l0 (k + 1) y0 y1 y2 y3 y4 y5))
  | 0 => fun _ _ _ _ _ _ r h => by simp [parser_TransitionTable_AddRange.l0] at h
  | k + 1 => by
    have ih0 := parser_TransitionTable_AddRange.mono_l k
    · intro y0 y1 y2 y3 y4 y5
      unfold parser_TransitionTable_AddRange.l0
      repeat' first
      | (with_reducible exact ih0 _ _ _ _ _ _)
      | (with_reducible exact LeO.refl _)
      | (with_reducible exact LeO.none _)
      | (with_reducible refine LeO.ite ?_ ?_)
      | (with_reducible refine LeO.bind ?_ (fun _ => ?_))
      | exact ih0 _ _ _ _ _ _
      | exact LeO.none _
      | refine LeO.ite ?_ ?_
      | refine LeO.bind ?_ (fun _ => ?_)
theorem parser_TransitionTable_AddRange.mono : ∀ a0 a1 a2 a3 a4 a5 k, LeO (parser_TransitionTable_AddRange.f k a0 a1 a2 a3 a4 a5) (parser_TransitionTable_AddRange.f (k + 1) a0 a1 a2 a3 a4 a5) := by
  intro a0 a1 a2 a3 a4 a5 k
  have ih0 := parser_TransitionTable_AddRange.mono_l k
  unfold parser_TransitionTable_AddRange.f
  repeat' first
      | (with_reducible exact ih0 _ _ _ _ _ _)
      | (with_reducible exact LeO.refl _)
      | (with_reducible exact LeO.none _)
      | (with_reducible refine LeO.ite ?_ ?_)
      | (with_reducible refine LeO.bind ?_ (fun _ => ?_))
      | exact ih0 _ _ _ _ _ _
      | exact LeO.none _
      | refine LeO.ite ?_ ?_
      | refine LeO.bind ?_ (fun _ => ?_)
set_option maxHeartbeats 8000000 in
set_option maxRecDepth 100000 in
theorem parser_TransitionTable_AddRange.calls (k : Nat) (P0_ : Nat → Prop) (u9000_ : Value) (l0 : List Int) (a1 : Int) (a2 : Int) (a3 : Int) (a4 : Int) (a5 : Int) (r : List Int) (w0 w : World) (hB : Below w0.heap.size w0 w) (ho0 : Kd.R (Kd.int .u8) 5 w w0.heap.size P0_ u9000_ l0) (h : parser_TransitionTable_AddRange.f k l0 a1 a2 a3 a4 a5 = some r) :
    Calls Tryd.prog 46 #[u9000_, .int .u8 a1, .int .u8 a2, .int .u8 a3, .int .u8 a4, .int .u8 a5] w fun e w' => e = .returned (.tuple #[]) ∧ Kd.R (Kd.int .u8) 5 w' w0.heap.size (fun k_ => (P0_ k_ ∨ w.heap.size ≤ k_)) u9000_ r ∧ Below w0.heap.size w0 w' ∧ Kept w w' (fun k_ => P0_ k_) := by
  have HO0 := Aside0.mk (show Kd.R (Kd.int .u8) 5 w w0.heap.size (fun k_ => (P0_ k_ ∨ w.heap.size ≤ k_)) u9000_ l0 from Kd.R_mono ho0 (fun k_ hk => (.inl hk)))
  have HK := Aside0.mk (Kept.refl w (fun k_ => P0_ k_))
  have HW0 := Aside0.mk hB.size
  have HB := Aside0.mk hB
  clear hB
  have H : (parser_TransitionTable_AddRange.l0 k l0 a2 a3 a4 a5 (wrap64 (a1))) = some r := h
  clear h
  have H' := Aside0.mk H
  clear H
  go_enter Tryd.func46, Tryd.ntmps46
  go_wp2
  go_loopg [12] k (fun kq v12 w' => ∃ (x0_1 : List Int) (x12_1 : Int), v12 = .int .i64 x12_1 ∧ Aside0 (parser_TransitionTable_AddRange.l0 kq x0_1 a2 a3 a4 a5 x12_1 = some r) ∧ Aside0 (kq ≤ k) ∧ Aside0 (Kd.R (Kd.int .u8) 5 w' w0.heap.size (fun k_ => (P0_ k_ ∨ w.heap.size ≤ k_)) u9000_ x0_1) ∧ Aside0 (Kept w w' (fun k_ => P0_ k_)) ∧ Aside0 (Below w0.heap.size w0 w'))
  case atStart => exact ⟨(l0), (wrap64 (a1)), (by first | rfl | (simp; done) | (simp [*]; done)), H', ⟨Nat.le_refl _⟩, ⟨by (with_reducible repeat (first | apply Kd.R_alloc | apply Go.Proofs.YtmpmfdghdaofhaaDoor.Ext.R_bytes | apply Kd.R_drewN | apply Kd.R_drew)); exact HO0.out⟩, ⟨by repeat (first | (with_reducible first | exact HK.out | apply Kept.alloc | apply Kept.drewN | apply Kept.drew) | exact HK.out)⟩, ⟨by repeat (first | (with_reducible first | exact HB.out | apply below_alloc | apply Go.Proofs.YtmpmfdghdaofhaaDoor.Ext.below_bytes | apply pw_below_drewN | apply below_drew1) | exact HB.out)⟩⟩
  case round =>
    clear H'
    try clear p2
    try clear c4
    try clear p6
    obtain ⟨x0_1, x12_1, rfl, HA, HK1, HO_0, HK, HB⟩ := hrel
    cases gk with
    | zero => exact absurd HA.out (by simp [parser_TransitionTable_AddRange.l0])
    | succ k1 =>
      have H := HA.out
      clear HA
      simp only [parser_TransitionTable_AddRange.l0] at H
      by_cases c7 : x12_1 ≤ (wrap64 (a2))
      · rw [if_pos c7] at H
        have c7b0 : decide (x12_1 ≤ (wrap64 (a2))) = true := decide_eq_true c7
        clear c7
        replace H := Option.bind_eq_some_iff.mp H
        obtain ⟨t114, A80, H⟩ := H
        replace H : (parser_TransitionTable_AddRange.l0 k1 t114 a2 a3 a4 a5 (wrap64 (x12_1 + 1))) = some r := H
        have A8 := Aside0.mk A80
        clear A80
        have H' := Aside0.mk H
        clear H
        obtain ⟨Ao9, co9, eo9⟩ := Kd.R_slice HO_0.out
        subst eo9
        go_wp2_with (first | ((with_reducible refine gate_callee (f := 47) rfl ?_); refine goesL_ (some 27) rfl rfl Tryd.func47 (by kernel_rfl) rfl #[.slice Ao9 x0_1.length co9, .int .u8 ((x12_1) % 256), .int .u8 a3, .int .u8 a4, .int .u8 a5] rfl (by (try simp only [List.map_toArray, List.map_cons, List.map_nil]); first | done | rfl | (simp only [List.length_drop, List.length_take]; rfl) | (simp [Act.eval, *]; done) | (simp [Act.eval, *]; unfold wrap64; omega)) ?_; (with_reducible refine (parser_TransitionTable_AddOne.calls (fun k_ => some k_ = (.slice Ao9 x0_1.length co9 : Value).ownBlock) (.slice Ao9 x0_1.length co9) x0_1 ((x12_1) % 256) a3 a4 a5 t114 w0 _ ?side1 ?side2 A8.out).mono ?_); (case side1 => repeat (first | (with_reducible first | exact HB.out | apply below_alloc | apply Go.Proofs.YtmpmfdghdaofhaaDoor.Ext.below_bytes | apply pw_below_drewN | apply below_drew1) | exact HB.out)); (case side2 => exact Kd.R_tight rfl HO_0.out); rintro e w10 ⟨rfl, hy0, hb, hkp⟩; refine ⟨_, rfl, ?_⟩; have n0_ := Aside0.mk (Kd.R_reok rfl hy0 (fun k_ e_ => HO_0.out.1 k_ e_)); have n1_ := Aside0.mk (Kept.then_ (S := (fun k_ => P0_ k_)) (by repeat (first | (with_reducible first | exact HK.out | apply Kept.alloc | apply Kept.drewN | apply Kept.drew) | exact HK.out)) hkp (fun k_ hs_ => (fun e_ => (HO_0.out.1 k_ e_.symm)) hs_)); have n2_ := Aside0.mk (hb); clear HO_0; clear HK; clear HB; have HO_0 := n0_; have HK := n1_; have HB := n2_; clear n0_ n1_ n2_; (try clear hb); (try clear hkp); (try clear hy0)))
        go_roundg k1
        case measure => have := HK1.out; omega
        case rel => exact ⟨(t114), (wrap64 (x12_1 + 1)), (by first | rfl | (simp; done) | (simp [*]; done)), H', ⟨by have := HK1.out; omega⟩, ⟨by (with_reducible repeat (first | apply Kd.R_alloc | apply Go.Proofs.YtmpmfdghdaofhaaDoor.Ext.R_bytes | apply Kd.R_drewN | apply Kd.R_drew)); exact HO_0.out⟩, ⟨by repeat (first | (with_reducible first | exact HK.out | apply Kept.alloc | apply Kept.drewN | apply Kept.drew) | exact HK.out)⟩, ⟨by repeat (first | (with_reducible first | exact HB.out | apply below_alloc | apply Go.Proofs.YtmpmfdghdaofhaaDoor.Ext.below_bytes | apply pw_below_drewN | apply below_drew1) | exact HB.out)⟩⟩
      · rw [if_neg c7] at H
        have c7b0 : decide (x12_1 ≤ (wrap64 (a2))) = false := decide_eq_false c7
        clear c7
        obtain rfl := Option.some.inj H
        go_wp2
        first | go_end0 | (show bodyPost _ _ _ Exit.normal _ _; refine bodyPost_end (results_none rfl _ _ _) rfl ?_) | ((try simp only [Exit.inBlock, Exit.then]); refine bodyPost_ret (results_none rfl _ _ _) rfl ?_)
        exact ⟨by first | rfl | (simp [errW_none, errW_some] <;> rfl) | (simp [*, errW_none, errW_some] <;> rfl), by (with_reducible repeat (first | apply Kd.R_alloc | apply Go.Proofs.YtmpmfdghdaofhaaDoor.Ext.R_bytes | apply Kd.R_drewN | apply Kd.R_drew)); exact HO_0.out, by repeat (first | (with_reducible first | exact HB.out | apply below_alloc | apply Go.Proofs.YtmpmfdghdaofhaaDoor.Ext.below_bytes | apply pw_below_drewN | apply below_drew1) | exact HB.out), by repeat (first | (with_reducible first | exact HK.out | apply Kept.alloc | apply Kept.drewN | apply Kept.drew) | exact HK.out)⟩

-- NOT PRINTED: function 24 (parser_GenerateTransitionTable)

/-! ### parser_TransitionTable_Transition: function 25 -/
def parser_TransitionTable_Transition.f (l0 : List Int) (a1 : Int) (a2 : Int) : Option (Int × Int) := if 0 ≤ (Go.bits .or .i64 (wrap64 ((wrap64 (a1)) * 256)) (wrap64 (a2))) then (if (Go.bits .or .i64 (wrap64 ((wrap64 (a1)) * 256)) (wrap64 (a2))) < (l0.length : Int) then (some (Go.bits .and .u8 (rd l0 (Go.bits .or .i64 (wrap64 ((wrap64 (a1)) * 256)) (wrap64 (a2)))) 15, (rd l0 (Go.bits .or .i64 (wrap64 ((wrap64 (a1)) * 256)) (wrap64 (a2)))) / 16)) else (none)) else (none)
set_option maxHeartbeats 8000000 in
set_option maxRecDepth 100000 in
theorem parser_TransitionTable_Transition.calls (A0 : Option Addr) (c0 : Nat) (l0 : List Int) (a1 : Int) (a2 : Int) (r1 : Int) (r2 : Int) (w : World) (hr0 : Kd.C (Kd.int .u8) w A0 l0.length l0) (hc0 : l0.length ≤ c0) (h : parser_TransitionTable_Transition.f l0 a1 a2 = some (r1, r2)) :
    Calls Tryd.prog 25 #[.slice A0 l0.length c0, .int .u8 a1, .int .u8 a2] w fun e w' => e = .returned (.tuple #[.int .u8 r1, .int .u8 r2]) ∧ Drawn0 w w' := by
  have HR0 := Aside0.mk hr0
  have HC0 := Aside0.mk hc0
  clear hr0 hc0
  have H : (if 0 ≤ (Go.bits .or .i64 (wrap64 ((wrap64 (a1)) * 256)) (wrap64 (a2))) then (if (Go.bits .or .i64 (wrap64 ((wrap64 (a1)) * 256)) (wrap64 (a2))) < (l0.length : Int) then (some (Go.bits .and .u8 (rd l0 (Go.bits .or .i64 (wrap64 ((wrap64 (a1)) * 256)) (wrap64 (a2)))) 15, (rd l0 (Go.bits .or .i64 (wrap64 ((wrap64 (a1)) * 256)) (wrap64 (a2)))) / 16)) else (none)) else (none)) = some (r1, r2) := h
  clear h
  obtain ⟨ji4, hji4⟩ : ∃ j_ : Int, (Go.bits .or .i64 (wrap64 ((wrap64 (a1)) * 256)) (wrap64 (a2))) = j_ := ⟨_, rfl⟩
  replace H : (if 0 ≤ (ji4) then (if (ji4) < (l0.length : Int) then (some (Go.bits .and .u8 (rd l0 (ji4)) 15, (rd l0 (ji4)) / 16)) else (none)) else (none)) = some (r1, r2) := by first | (rw [hji4] at H; exact H) | (simp only [hji4] at H ⊢; exact H)
  by_cases c5 : 0 ≤ (ji4)
  · rw [if_pos c5] at H
    have c5b0 : decide (0 ≤ (ji4)) = true := decide_eq_true c5
    clear c5
    by_cases c6 : (ji4) < (l0.length : Int)
    · rw [if_pos c6] at H
      have c6b0 : decide ((ji4) < (l0.length : Int)) = true := decide_eq_true c6
      clear c6
      simp only [Option.some.injEq, Prod.mk.injEq] at H
      obtain ⟨rfl, rfl⟩ := H
      have p255 : 0 ≤ ((ji4) : Int) := of_decide_eq_true (by first | (with_reducible assumption) | assumption)
      have q255 : (ji4) < (l0.length : Int) := of_decide_eq_true (by first | (with_reducible assumption) | assumption)
      obtain ⟨ad255, e255, hx255_0⟩ := Kd.at_int HR0.out (ji4) p255 q255
      cases e255
      replace p255 := eq_true p255
      replace q255 := eq_true q255
      go_enter Tryd.func25, Tryd.ntmps25
      go_wp2
      go_ret2
      exact ⟨by first | rfl | (simp; done) | (simp only [← hji4] <;> (first | rfl | simp)) | (simp [*]; done), by repeat (first | exact Drawn0.refl _ | apply Drawn0.step)⟩
    · rw [if_neg c6] at H
      exact absurd H (by simp)
  · rw [if_neg c5] at H
    exact absurd H (by simp)

-- NOT PRINTED: function 10 (impl_Generated)

end Go.Proofs.YtmpmfdghdaofhaaDoor.PG
