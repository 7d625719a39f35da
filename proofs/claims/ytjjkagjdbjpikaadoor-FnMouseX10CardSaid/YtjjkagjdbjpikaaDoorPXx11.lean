-- Written by wip/pp.py, a program of this session, out of the translation. Not trusted: Lean checks it.
import Derived.Test.YtjjkagjdbjpikaaDoorPXx0
import Derived.Test.YtjjkagjdbjpikaaDoorPXx4
import Derived.Test.YtjjkagjdbjpikaaDoorPXx10
namespace Go.Proofs.YtjjkagjdbjpikaaDoor.PX
open Go.RowKit Go.Proofs.YtjjkagjdbjpikaaDoor.Or Go.Proofs.YtjjkagjdbjpikaaDoorW.PrintWords Go.Proofs.YtjjkagjdbjpikaaDoorW.PrintLast Go.Proofs.YtjjkagjdbjpikaaDoorW.PrintMore
attribute [local go_sem] max2_int min2_int max_two min_two max_three min_three max_four min_four   -- for this text's walks alone
attribute [local go_sem] Go.Proofs.YtjjkagjdbjpikaaDoor.Ext.wrap64_mod256 Go.Proofs.YtjjkagjdbjpikaaDoor.Ext.wrap64_mod32 Go.Proofs.YtjjkagjdbjpikaaDoor.Ext.i64_mod256 Go.Proofs.YtjjkagjdbjpikaaDoor.Ext.i64_mod32 Go.Proofs.YtjjkagjdbjpikaaDoor.Ext.i64_u8 Go.Proofs.YtjjkagjdbjpikaaDoor.Ext.w64_u8 Go.Proofs.YtjjkagjdbjpikaaDoor.Ext.i64_u32 Go.Proofs.YtjjkagjdbjpikaaDoor.Ext.w64_u32 
set_option linter.unusedVariables false
set_option linter.unusedSimpArgs false

/-! ### spec_MadePalette: function 24 -/
mutual
def spec_MadePalette.j0 : Nat → Int → Int → Int → Int → Bool → Option (ByteArray)
  | 0, _, _, _, _, _ => none
  | k + 1, x0, x1, x2, x3, x17 => if x17 = true then (some (⟨#[]⟩ : ByteArray)) else (if 0 ≤ x0 then (if x0 < 16 then ((some (([x1, x2, x3] : List Int) : List Int)).bind fun y337 => (spec_MadePalette.l0 k (([bt (⟨#[48, 49, 50, 51, 52, 53, 54, 55, 56, 57, 97, 98, 99, 100, 101, 102]⟩ : ByteArray) x0] : List Int)) y337 (y337.length : Int) 0)) else (none)) else (none))
def spec_MadePalette.l0 : Nat → List Int → List Int → Int → Int → Option (ByteArray)
  | 0, _, _, _, _ => none
  | k + 1, x9, x24, x25, x26 => if x26 < x25 then (if 0 ≤ x26 then (if x26 < (x24.length : Int) then (if 0 ≤ ((rd x24 x26) / 16) then (if ((rd x24 x26) / 16) < 16 then (if 0 ≤ (Go.bits .and .u8 (rd x24 x26) 15) then (if (Go.bits .and .u8 (rd x24 x26) 15) < 16 then ((some (([bt (⟨#[48, 49, 50, 51, 52, 53, 54, 55, 56, 57, 97, 98, 99, 100, 101, 102]⟩ : ByteArray) ((rd x24 x26) / 16), bt (⟨#[48, 49, 50, 51, 52, 53, 54, 55, 56, 57, 97, 98, 99, 100, 101, 102]⟩ : ByteArray) (Go.bits .and .u8 (rd x24 x26) 15)] : List Int) : List Int)).bind fun y341 => (if x9.length + y341.length < 140737488355328 then (spec_MadePalette.l0 k (x9 ++ y341) x24 x25 (wrap64 (x26 + 1))) else (none))) else (none)) else (none)) else (none)) else (none)) else (none)) else (none)) else (if 3 + (strOfNums x9).size ≤ 9223372036854775807 then (if 3 + (strOfNums x9).size + 1 ≤ 9223372036854775807 then (some (((⟨#[27, 93, 80]⟩ : ByteArray) ++ (strOfNums x9)) ++ (⟨#[7]⟩ : ByteArray))) else (none)) else (none))
end
def spec_MadePalette.f (k : Nat) (a0 : Int) (a1 : Int) (a2 : Int) (a3 : Int) : Option (ByteArray) := if a0 < 0 then (spec_MadePalette.j0 k a0 a1 a2 a3 true) else (spec_MadePalette.j0 k a0 a1 a2 a3 (decide (a0 > 15)))
theorem spec_MadePalette.mono_l : ∀ k, (∀ y0 y1 y2 y3 y4, LeO (spec_MadePalette.j0 k y0 y1 y2 y3 y4) (spec_MadePalette.j0 (k + 1) y0 y1 y2 y3 y4)) ∧ (∀ y0 y1 y2 y3, LeO (spec_MadePalette.l0 k y0 y1 y2 y3) (spec_MadePalette.l0 (k + 1) y0 y1 y2 y3))
  | 0 => ⟨fun _ _ _ _ _ r h => by simp [spec_MadePalette.j0] at h, fun _ _ _ _ r h => by simp [spec_MadePalette.l0] at h⟩
  | k + 1 => by
    obtain ⟨ih0, ih1⟩ := spec_MadePalette.mono_l k
    refine ⟨?_, ?_⟩
    · intro y0 y1 y2 y3 y4
      unfold spec_MadePalette.j0
      repeat' first
      | (with_reducible exact ih0 _ _ _ _ _)
      | (with_reducible exact ih1 _ _ _ _)
      | (with_reducible exact LeO.refl _)
      | (with_reducible exact LeO.none _)
      | (with_reducible refine LeO.ite ?_ ?_)
      | (with_reducible refine LeO.bind ?_ (fun _ => ?_))
      | exact ih0 _ _ _ _ _
      | exact ih1 _ _ _ _
      | exact LeO.none _
      | refine LeO.ite ?_ ?_
      | refine LeO.bind ?_ (fun _ => ?_)
    · intro y0 y1 y2 y3
      unfold spec_MadePalette.l0
      repeat' first
      | (with_reducible exact ih0 _ _ _ _ _)
      | (with_reducible exact ih1 _ _ _ _)
      | (with_reducible exact LeO.refl _)
      | (with_reducible exact LeO.none _)
      | (with_reducible refine LeO.ite ?_ ?_)
      | (with_reducible refine LeO.bind ?_ (fun _ => ?_))
      | exact ih0 _ _ _ _ _
      | exact ih1 _ _ _ _
      | exact LeO.none _
      | refine LeO.ite ?_ ?_
      | refine LeO.bind ?_ (fun _ => ?_)
theorem spec_MadePalette.mono : ∀ a0 a1 a2 a3 k, LeO (spec_MadePalette.f k a0 a1 a2 a3) (spec_MadePalette.f (k + 1) a0 a1 a2 a3) := by
  intro a0 a1 a2 a3 k
  obtain ⟨ih0, ih1⟩ := spec_MadePalette.mono_l k
  unfold spec_MadePalette.f
  repeat' first
      | (with_reducible exact ih0 _ _ _ _ _)
      | (with_reducible exact ih1 _ _ _ _)
      | (with_reducible exact LeO.refl _)
      | (with_reducible exact LeO.none _)
      | (with_reducible refine LeO.ite ?_ ?_)
      | (with_reducible refine LeO.bind ?_ (fun _ => ?_))
      | exact ih0 _ _ _ _ _
      | exact ih1 _ _ _ _
      | exact LeO.none _
      | refine LeO.ite ?_ ?_
      | refine LeO.bind ?_ (fun _ => ?_)
def spec_MadePalette.T7 : Bool × List (List Nat × List Nat) := (true, [([], []), ([], []), ([1], [1]), ([2], [2]), ([], []), ([4], [4]), ([5], [5]), ([3, 6], [3, 6]), ([0, 7], [0, 7]), ([8, 8, 0, 1, 2, 3, 4, 5, 6, 7, 8], [0, 8])])
def spec_MadePalette.B7 : List Nat := [0, 0, 2, 6, 0, 16, 48, 126, 255, 511]
theorem spec_MadePalette.tab7 : rtab .any (opsOf Tryd.f24 7) = spec_MadePalette.T7 := by kernel_rfl
theorem spec_MadePalette.bits7 : waitsOk spec_MadePalette.T7.2 spec_MadePalette.B7 = true := by kernel_rfl
set_option maxHeartbeats 8000000 in
set_option maxRecDepth 100000 in
theorem spec_MadePalette.calls (k : Nat) (a0 : Int) (a1 : Int) (a2 : Int) (a3 : Int) (r : ByteArray) (w : World) (h : spec_MadePalette.f k a0 a1 a2 a3 = some r) :
    Calls Tryd.prog 24 #[.int .i64 a0, .int .u8 a1, .int .u8 a2, .int .u8 a3] w fun e w' => e = .returned (.string r) ∧ Below w.heap.size w w' := by
  have HB := Aside0.mk (Below.refl w.heap.size w)
  have H : (if a0 < 0 then (spec_MadePalette.j0 k a0 a1 a2 a3 true) else (spec_MadePalette.j0 k a0 a1 a2 a3 (decide (a0 > 15)))) = some r := h
  clear h
  have HC5 := Aside0.mk H
  clear H
  go_enter Tryd.func24, Tryd.ntmps24
  go_upto_region 1 with (fail)
  go_cut [17] (fun v17 wc => ∃ (kq : Nat) (x17_4 : Bool), v17 = .bool x17_4 ∧ Aside0 (spec_MadePalette.j0 kq a0 a1 a2 a3 x17_4 = some r) ∧ Aside0 (kq ≤ k) ∧ Aside0 (Below w.heap.size w wc))
  case first =>
    have H := HC5.out
    clear HC5
    by_cases c6 : a0 < 0
    · rw [if_pos c6] at H
      have c6b0 : decide (a0 < 0) = true := decide_eq_true c6
      clear c6
      (first | rw [c6b0] | (simp only [i64_w, i32_w]; rw [c6b0]) | skip)
      have H' := Aside0.mk H
      clear H
      go_wp2
      go_meet
      case rel => exact ⟨_, (true), (by first | rfl | (simp; done) | (simp [*]; done)), H', ⟨by first | omega | exact Nat.le_refl _⟩, ⟨by repeat (first | (with_reducible first | exact HB.out | apply below_alloc | apply Go.Proofs.YtjjkagjdbjpikaaDoor.Ext.below_bytes | apply pw_below_drewN | apply below_drew1) | exact HB.out)⟩⟩
    · rw [if_neg c6] at H
      have c6b0 : decide (a0 < 0) = false := decide_eq_false c6
      clear c6
      (first | rw [c6b0] | (simp only [i64_w, i32_w]; rw [c6b0]) | skip)
      have H' := Aside0.mk H
      clear H
      go_wp2
      go_meet
      case rel => exact ⟨_, (decide (a0 > 15)), (by first | rfl | (simp; done) | (simp [*]; done)), H', ⟨by first | omega | exact Nat.le_refl _⟩, ⟨by repeat (first | (with_reducible first | exact HB.out | apply below_alloc | apply Go.Proofs.YtjjkagjdbjpikaaDoor.Ext.below_bytes | apply pw_below_drewN | apply below_drew1) | exact HB.out)⟩⟩
  case rest =>
    clear HC5
    try clear c2
    try clear p2
    try clear c6
    try clear c6b0
    obtain ⟨kq, x17_4, rfl, HA, HJ4, HB⟩ := hcut
    cases kq with
    | zero => exact absurd HA.out (by simp [spec_MadePalette.j0])
    | succ kj4 =>
      have H := HA.out
      clear HA
      simp only [spec_MadePalette.j0] at H
      by_cases c7 : x17_4 = true
      · subst c7
        have H1 : (some (⟨#[]⟩ : ByteArray)) = some r := by rw [if_pos rfl] at H; exact H
        clear H
        have H := H1
        clear H1
        obtain rfl := Option.some.inj H
        go_wp2
        go_ret
        exact ⟨by first | rfl | (simp [errW_none, errW_some] <;> rfl) | (simp [*, errW_none, errW_some] <;> rfl), by repeat (first | (with_reducible first | exact HB.out | apply below_alloc | apply Go.Proofs.YtjjkagjdbjpikaaDoor.Ext.below_bytes | apply pw_below_drewN | apply below_drew1) | exact HB.out)⟩
      · replace c7 := Bool.eq_false_iff.mpr c7
        subst c7
        have H1 : (if 0 ≤ a0 then (if a0 < 16 then ((some (([a1, a2, a3] : List Int) : List Int)).bind fun y337 => (spec_MadePalette.l0 kj4 (([bt (⟨#[48, 49, 50, 51, 52, 53, 54, 55, 56, 57, 97, 98, 99, 100, 101, 102]⟩ : ByteArray) a0] : List Int)) y337 (y337.length : Int) 0)) else (none)) else (none)) = some r := by rw [if_neg (show ¬ (false = true) by decide)] at H; exact H
        clear H
        have H := H1
        clear H1
        by_cases c8 : 0 ≤ a0
        · rw [if_pos c8] at H
          have c8b0 : decide (0 ≤ a0) = true := decide_eq_true c8
          clear c8
          by_cases c9 : a0 < 16
          · rw [if_pos c9] at H
            have c9b0 : decide (a0 < 16) = true := decide_eq_true c9
            clear c9
            obtain ⟨y334, hy334⟩ : ∃ y_ : List Int, y_ = (([bt (⟨#[48, 49, 50, 51, 52, 53, 54, 55, 56, 57, 97, 98, 99, 100, 101, 102]⟩ : ByteArray) a0] : List Int)) := ⟨_, rfl⟩
            replace H : ((some (([a1, a2, a3] : List Int) : List Int)).bind fun y337 => (spec_MadePalette.l0 kj4 y334 y337 (y337.length : Int) 0)) = some r := by first | (rw [hy334]; with_reducible exact H) | (have H2_ := (Option.bind_some _ _).symm.trans H; rw [hy334]; with_reducible exact H2_) | (have H2_ := (Option.bind_some _ _).symm.trans H; with_reducible exact H2_) | with_reducible exact H | (rw [hy334]; exact H) | exact H
            have Ny334 := Aside0.mk hy334
            clear hy334
            obtain ⟨y337, hy337⟩ : ∃ y_ : List Int, y_ = (([a1, a2, a3] : List Int)) := ⟨_, rfl⟩
            replace H : (spec_MadePalette.l0 kj4 y334 y337 (y337.length : Int) 0) = some r := by first | (rw [hy337]; with_reducible exact H) | (have H2_ := (Option.bind_some _ _).symm.trans H; rw [hy337]; with_reducible exact H2_) | (have H2_ := (Option.bind_some _ _).symm.trans H; with_reducible exact H2_) | with_reducible exact H | (rw [hy337]; exact H) | exact H
            have Ny337 := Aside0.mk hy337
            clear hy337
            have H' := Aside0.mk H
            clear H
            have p10 : 0 ≤ (a0 : Int) := of_decide_eq_true (by first | (with_reducible assumption) | assumption)
            have q10 : a0 < (16 : Int) := of_decide_eq_true (by first | (with_reducible assumption) | assumption)
            have hx10 := bt_at (⟨#[48, 49, 50, 51, 52, 53, 54, 55, 56, 57, 97, 98, 99, 100, 101, 102]⟩ : ByteArray) a0
            replace p10 := eq_true p10
            replace q10 := eq_true q10
            go_wp2_with (first | ((with_reducible refine gate_dst (N := 20) rfl ?_); refine Kd.R_lit (Kd.int .u8) _ 5 ?hg (N := 20) ?hd (xs := ([bt (⟨#[48, 49, 50, 51, 52, 53, 54, 55, 56, 57, 97, 98, 99, 100, 101, 102]⟩ : ByteArray) a0] : List Int)) (inner := [.int .u8 (bt (⟨#[48, 49, 50, 51, 52, 53, 54, 55, 56, 57, 97, 98, 99, 100, 101, 102]⟩ : ByteArray) a0)]) (ok := fun _ => True) (okp := fun _ => True) ?hr ?hp (fun _ hk => hk) trivial (Below.refl _ _) (Nat.le_refl _) (by simp) ?_; (case hd => rfl); (case hg => rfl); (case hr => first | (go_simp; done) | (go_simp; rfl)); (case hp => exact (Reps.one (show Kd.M (Kd.int .u8) _ _ _ (bt (⟨#[48, 49, 50, 51, 52, 53, 54, 55, 56, 57, 97, 98, 99, 100, 101, 102]⟩ : ByteArray) a0) [.int .u8 (bt (⟨#[48, 49, 50, 51, 52, 53, 54, 55, 56, 57, 97, 98, 99, 100, 101, 102]⟩ : ByteArray) a0)] from rfl) (Reps.none _ _))); intro v335 w11 ho12 hb hg_ hnew_; clear hg_ hnew_; (first | rw [← Ny334.out] at ho12 | (simp only [Int.reduceToNat] at ho12; rw [← Ny334.out] at ho12)); have n0_ := Aside0.mk (Kd.R_lower ho12 (below_size (by repeat (first | (with_reducible first | exact HB.out | apply below_alloc | apply Go.Proofs.YtjjkagjdbjpikaaDoor.Ext.below_bytes | apply pw_below_drewN | apply below_drew1) | exact HB.out)))); have n1_ := Aside0.mk (below_step (by repeat (first | (with_reducible first | exact HB.out | apply below_alloc | apply Go.Proofs.YtjjkagjdbjpikaaDoor.Ext.below_bytes | apply pw_below_drewN | apply below_drew1) | exact HB.out)) hb); clear HB; have HO336 := n0_; have HB := n1_; clear n0_ n1_; clear hb ho12) | ((with_reducible refine gate_dst (N := 24) rfl ?_); refine Kd.R_lit (Kd.int .u8) _ 5 ?hg (N := 24) ?hd (xs := ([a1, a2, a3] : List Int)) (inner := [.int .u8 a1, .int .u8 a2, .int .u8 a3]) (ok := fun _ => True) (okp := fun _ => True) ?hr ?hp (fun _ hk => hk) trivial (Below.refl _ _) (Nat.le_refl _) (by simp) ?_; (case hd => rfl); (case hg => rfl); (case hr => first | (go_simp; done) | (go_simp; rfl)); (case hp => exact (Reps.one (show Kd.M (Kd.int .u8) _ _ _ a1 [.int .u8 a1] from rfl) (Reps.one (show Kd.M (Kd.int .u8) _ _ _ a2 [.int .u8 a2] from rfl) (Reps.one (show Kd.M (Kd.int .u8) _ _ _ a3 [.int .u8 a3] from rfl) (Reps.none _ _))))); intro v338 w13 ho14 hb hg_ hnew_; clear hg_ hnew_; (first | rw [← Ny337.out] at ho14 | (simp only [Int.reduceToNat] at ho14; rw [← Ny337.out] at ho14)); have n0_ := Aside0.mk (Kd.R_elder' (by (with_reducible repeat (first | apply Kd.R_alloc | apply Go.Proofs.YtjjkagjdbjpikaaDoor.Ext.R_bytes | apply Kd.R_drewN | apply Kd.R_drew)); exact HO336.out) (Kd.R_base ho14) hb); have n1_ := Aside0.mk (Kd.R_lower (Kd.R_new' ho14 (Kd.R_lt (by (with_reducible repeat (first | apply Kd.R_alloc | apply Go.Proofs.YtjjkagjdbjpikaaDoor.Ext.R_bytes | apply Kd.R_drewN | apply Kd.R_drew)); exact HO336.out))) (below_size (by repeat (first | (with_reducible first | exact HB.out | apply below_alloc | apply Go.Proofs.YtjjkagjdbjpikaaDoor.Ext.below_bytes | apply pw_below_drewN | apply below_drew1) | exact HB.out)))); have n2_ := Aside0.mk (below_step (by repeat (first | (with_reducible first | exact HB.out | apply below_alloc | apply Go.Proofs.YtjjkagjdbjpikaaDoor.Ext.below_bytes | apply pw_below_drewN | apply below_drew1) | exact HB.out)) hb); clear HO336; clear HB; have HO336 := n0_; have HO339 := n1_; have HB := n2_; clear n0_ n1_ n2_; clear hb ho14; obtain ⟨Ao15, co15, eo15⟩ := Kd.R_slice HO339.out; subst eo15))
            go_loopg [9, 26] kj4 (fun kq v9 v26 w' => ∃ (x9_2 : List Int) (x26_2 : Int), v26 = .int .i64 x26_2 ∧ Aside0 (spec_MadePalette.l0 kq x9_2 y337 (y337.length : Int) x26_2 = some r) ∧ Aside0 (kq ≤ kj4) ∧ Aside0 (Kd.R (Kd.int .u8) 5 w' w.heap.size (fun k_ => some k_ ≠ ((.slice Ao15 y337.length co15) : Value).ownBlock) v9 x9_2) ∧ Aside0 (Kd.R (Kd.int .u8) 5 w' w.heap.size (fun k_ => some k_ ≠ (v9 : Value).ownBlock) (.slice Ao15 y337.length co15) y337) ∧ Aside0 (Below w.heap.size w w'))
            case atStart => exact ⟨(y334), (0), (by first | rfl | (simp; done) | (simp [*]; done)), H', ⟨Nat.le_refl _⟩, ⟨by (with_reducible repeat (first | apply Kd.R_alloc | apply Go.Proofs.YtjjkagjdbjpikaaDoor.Ext.R_bytes | apply Kd.R_drewN | apply Kd.R_drew)); exact Kd.R_mono HO336.out (fun _ hk => hk.2)⟩, ⟨by (with_reducible repeat (first | apply Kd.R_alloc | apply Go.Proofs.YtjjkagjdbjpikaaDoor.Ext.R_bytes | apply Kd.R_drewN | apply Kd.R_drew)); exact Kd.R_mono HO339.out (fun _ hk => hk.2)⟩, ⟨by repeat (first | (with_reducible first | exact HB.out | apply below_alloc | apply Go.Proofs.YtjjkagjdbjpikaaDoor.Ext.below_bytes | apply pw_below_drewN | apply below_drew1) | exact HB.out)⟩⟩
            case round =>
              clear H'
              try clear p1
              try clear q1
              try clear hx1
              try clear c2
              try clear p2
              try clear c6
              try clear c6b0
              try clear c7
              try clear c8
              try clear c8b0
              try clear c9
              try clear c9b0
              try clear p10
              try clear q10
              try clear hx10
              try clear p10
              try clear p2
              try clear q10
              obtain ⟨x9_2, x26_2, rfl, HA, HK2, HO_9, HO_24, HB⟩ := hrel
              cases gk with
              | zero => exact absurd HA.out (by simp [spec_MadePalette.l0])
              | succ k2 =>
                have H := HA.out
                clear HA
                simp only [spec_MadePalette.l0] at H
                by_cases c16 : x26_2 < (y337.length : Int)
                · rw [if_pos c16] at H
                  have c16b0 : decide (x26_2 < (y337.length : Int)) = true := decide_eq_true c16
                  clear c16
                  by_cases c17 : 0 ≤ x26_2
                  · rw [if_pos c17] at H
                    have c17b0 : decide (0 ≤ x26_2) = true := decide_eq_true c17
                    clear c17
                    by_cases c18 : x26_2 < (y337.length : Int)
                    · rw [if_pos c18] at H
                      have c18b0 : decide (x26_2 < (y337.length : Int)) = true := decide_eq_true c18
                      clear c18
                      obtain ⟨ji19, hji19⟩ : ∃ j_ : Int, ((rd y337 x26_2) / 16) = j_ := ⟨_, rfl⟩
                      replace H : (if 0 ≤ (ji19) then (if (ji19) < 16 then (if 0 ≤ (Go.bits .and .u8 (rd y337 x26_2) 15) then (if (Go.bits .and .u8 (rd y337 x26_2) 15) < 16 then ((some (([bt (⟨#[48, 49, 50, 51, 52, 53, 54, 55, 56, 57, 97, 98, 99, 100, 101, 102]⟩ : ByteArray) (ji19), bt (⟨#[48, 49, 50, 51, 52, 53, 54, 55, 56, 57, 97, 98, 99, 100, 101, 102]⟩ : ByteArray) (Go.bits .and .u8 (rd y337 x26_2) 15)] : List Int) : List Int)).bind fun y341 => (if x9_2.length + y341.length < 140737488355328 then (spec_MadePalette.l0 k2 (x9_2 ++ y341) y337 (y337.length : Int) (wrap64 (x26_2 + 1))) else (none))) else (none)) else (none)) else (none)) else (none)) = some r := by first | (rw [hji19] at H; exact H) | (simp only [hji19] at H ⊢; exact H)
                      by_cases c20 : 0 ≤ (ji19)
                      · rw [if_pos c20] at H
                        have c20b0 : decide (0 ≤ (ji19)) = true := decide_eq_true c20
                        clear c20
                        by_cases c21 : (ji19) < 16
                        · rw [if_pos c21] at H
                          have c21b0 : decide ((ji19) < 16) = true := decide_eq_true c21
                          clear c21
                          by_cases c23 : 0 ≤ (Go.bits .and .u8 (rd y337 x26_2) 15)
                          · rw [if_pos c23] at H
                            have c23b0 : decide (0 ≤ (Go.bits .and .u8 (rd y337 x26_2) 15)) = true := decide_eq_true c23
                            clear c23
                            by_cases c24 : (Go.bits .and .u8 (rd y337 x26_2) 15) < 16
                            · rw [if_pos c24] at H
                              have c24b0 : decide ((Go.bits .and .u8 (rd y337 x26_2) 15) < 16) = true := decide_eq_true c24
                              clear c24
                              obtain ⟨y341, hy341⟩ : ∃ y_ : List Int, y_ = (([bt (⟨#[48, 49, 50, 51, 52, 53, 54, 55, 56, 57, 97, 98, 99, 100, 101, 102]⟩ : ByteArray) (ji19), bt (⟨#[48, 49, 50, 51, 52, 53, 54, 55, 56, 57, 97, 98, 99, 100, 101, 102]⟩ : ByteArray) (Go.bits .and .u8 (rd y337 x26_2) 15)] : List Int)) := ⟨_, rfl⟩
                              replace H : (if x9_2.length + y341.length < 140737488355328 then (spec_MadePalette.l0 k2 (x9_2 ++ y341) y337 (y337.length : Int) (wrap64 (x26_2 + 1))) else (none)) = some r := by first | (rw [hy341]; with_reducible exact H) | (have H2_ := (Option.bind_some _ _).symm.trans H; rw [hy341]; with_reducible exact H2_) | (have H2_ := (Option.bind_some _ _).symm.trans H; with_reducible exact H2_) | with_reducible exact H | (rw [hy341]; exact H) | exact H
                              have Ny341 := Aside0.mk hy341
                              clear hy341
                              by_cases c26 : x9_2.length + y341.length < 140737488355328
                              · rw [if_pos c26] at H
                                have LMc26 := Aside0.mk c26
                                clear c26
                                obtain ⟨y344, hy344⟩ : ∃ y_ : List Int, y_ = (x9_2 ++ y341) := ⟨_, rfl⟩
                                replace H : (spec_MadePalette.l0 k2 y344 y337 (y337.length : Int) (wrap64 (x26_2 + 1))) = some r := by first | (rw [hy344]; with_reducible exact H) | (have H2_ := (Option.bind_some _ _).symm.trans H; rw [hy344]; with_reducible exact H2_) | (have H2_ := (Option.bind_some _ _).symm.trans H; with_reducible exact H2_) | with_reducible exact H | (rw [hy344]; exact H) | exact H
                                have Ny344 := Aside0.mk hy344
                                clear hy344
                                have H' := Aside0.mk H
                                clear H
                                have p340 : 0 ≤ (x26_2 : Int) := of_decide_eq_true (by first | (with_reducible assumption) | assumption)
                                have q340 : x26_2 < (y337.length : Int) := of_decide_eq_true (by first | (with_reducible assumption) | assumption)
                                obtain ⟨ad340, e340, hx340_0⟩ := Kd.at_int (Kd.R_reads' HO_24.out).2.2 x26_2 p340 q340
                                cases e340
                                replace p340 := eq_true p340
                                replace q340 := eq_true q340
                                try go_wp2
                                have n0_ := Aside0.mk (Kd.R_drew HO_9.out)
                                have n1_ := Aside0.mk (Kd.R_drew HO_24.out)
                                have n2_ := Aside0.mk (below_drew1 HB.out)
                                clear HO_9
                                clear HO_24
                                clear HB
                                have HO_9 := n0_
                                have HO_24 := n1_
                                have HB := n2_
                                clear n0_ n1_ n2_
                                have p22 : 0 ≤ ((ji19) : Int) := of_decide_eq_true (by first | (with_reducible assumption) | assumption)
                                have q22 : (ji19) < (16 : Int) := of_decide_eq_true (by first | (with_reducible assumption) | assumption)
                                have hx22 := bt_at (⟨#[48, 49, 50, 51, 52, 53, 54, 55, 56, 57, 97, 98, 99, 100, 101, 102]⟩ : ByteArray) (ji19)
                                replace p22 := eq_true p22
                                replace q22 := eq_true q22
                                have p25 : 0 ≤ ((Go.bits .and .u8 (rd y337 x26_2) 15) : Int) := of_decide_eq_true (by first | (with_reducible assumption) | assumption)
                                have q25 : (Go.bits .and .u8 (rd y337 x26_2) 15) < (16 : Int) := of_decide_eq_true (by first | (with_reducible assumption) | assumption)
                                have hx25 := bt_at (⟨#[48, 49, 50, 51, 52, 53, 54, 55, 56, 57, 97, 98, 99, 100, 101, 102]⟩ : ByteArray) (Go.bits .and .u8 (rd y337 x26_2) 15)
                                replace p25 := eq_true p25
                                replace q25 := eq_true q25
                                refine start_ (n := 10) (S := fun w' => True) (ds := []) #[false, false, false, false, false, false, false, false, false, false] (by kernel_rfl) rfl rfl trivial (fun hHeld => ?_); refine with_tabW spec_MadePalette.tab7 spec_MadePalette.bits7 (fun HT_ HW_ => ?_)
                                generalize wr.drew = w27 at HO_9 HO_24 HB hHeld ⊢
                                refine pure_ (i := 0) (N := some 30) (v := ?_) (a' := ?_) #[true, false, false, false, false, false, false, false, false, false] rfl rfl (any_of HT_.out (by kernel_rfl)) (fun _ _ _ h => h) (Or.inl ⟨by rfl, ?_⟩) ?_ ?_
                                rotate_left
                                · intro w'
                                  go_simp
                                  with_reducible rfl
                                rotate_left
                                · simp only [Act.put, List.setIfInBounds_toArray, List.set_cons_zero, List.set_cons_succ, i64_w, i32_w]
                                  rfl
                                refine pure_ (i := 1) (N := some 31) (v := ?_) (a' := ?_) #[true, true, false, false, false, false, false, false, false, false] rfl rfl (any_of HT_.out (by kernel_rfl)) (fun _ _ _ h => h) (Or.inl ⟨by rfl, ?_⟩) ?_ ?_
                                rotate_left
                                · intro w'
                                  go_simp
                                  with_reducible rfl
                                rotate_left
                                · simp only [Act.put, List.setIfInBounds_toArray, List.set_cons_zero, List.set_cons_succ, i64_w, i32_w]
                                  rfl
                                refine pure_ (i := 2) (N := some 32) (v := ?_) (a' := ?_) #[true, true, true, false, false, false, false, false, false, false] rfl rfl (any_of HT_.out (by kernel_rfl)) (fun _ _ _ h => h) (Or.inl ⟨by rfl, ?_⟩) ?_ ?_
                                rotate_left
                                · intro w'
                                  go_simp
                                  with_reducible rfl
                                rotate_left
                                · simp only [Act.put, List.setIfInBounds_toArray, List.set_cons_zero, List.set_cons_succ, i64_w, i32_w]
                                  rfl
                                refine pure_ (i := 4) (N := some 34) (v := ?_) (a' := ?_) #[true, true, true, false, true, false, false, false, false, false] rfl rfl (any_of HT_.out (by kernel_rfl)) (fun _ _ _ h => h) (Or.inl ⟨by rfl, ?_⟩) ?_ ?_
                                rotate_left
                                · intro w'
                                  go_simp
                                  with_reducible rfl
                                rotate_left
                                · simp only [Act.put, List.setIfInBounds_toArray, List.set_cons_zero, List.set_cons_succ, i64_w, i32_w]
                                  rfl
                                refine pure_ (i := 5) (N := some 35) (v := ?_) (a' := ?_) #[true, true, true, false, true, true, false, false, false, false] rfl rfl (any_of HT_.out (by kernel_rfl)) (fun _ _ _ h => h) (Or.inl ⟨by rfl, ?_⟩) ?_ ?_
                                rotate_left
                                · intro w'
                                  go_simp
                                  with_reducible rfl
                                rotate_left
                                · simp only [Act.put, List.setIfInBounds_toArray, List.set_cons_zero, List.set_cons_succ, i64_w, i32_w]
                                  rfl
                                refine take_ (i := 3) (N := some 33) (v := ?_) (a' := ?_) #[true, true, true, true, true, true, false, false, false, false] rfl rfl (take_ofW HT_.out HW_.out (by kernel_rfl)) (fun _ _ _ h => h) (Or.inl ⟨by rfl, ?_⟩) hHeld ?_ ?_
                                rotate_left
                                · intro w' _
                                  go_simp
                                  with_reducible rfl
                                rotate_left
                                · simp only [Act.put, List.setIfInBounds_toArray, List.set_cons_zero, List.set_cons_succ, i64_w, i32_w]
                                  rfl
                                refine take_ (i := 6) (N := some 36) (v := ?_) (a' := ?_) #[true, true, true, true, true, true, true, false, false, false] rfl rfl (take_ofW HT_.out HW_.out (by kernel_rfl)) (fun _ _ _ h => h) (Or.inl ⟨by rfl, ?_⟩) hHeld ?_ ?_
                                rotate_left
                                · intro w' _
                                  go_simp
                                  with_reducible rfl
                                rotate_left
                                · simp only [Act.put, List.setIfInBounds_toArray, List.set_cons_zero, List.set_cons_succ, i64_w, i32_w]
                                  rfl
                                refine one_ (i := 7) (N := some 37) #[true, true, true, true, true, true, true, true, false, false] rfl rfl (one_of HT_.out (by kernel_rfl)) (by decide) (fun K hK => ?_)
                                refine Kd.R_lit_step (Kd.int .u8) _ 5 ?hg (N := 37) ?hd (xs := ([bt (⟨#[48, 49, 50, 51, 52, 53, 54, 55, 56, 57, 97, 98, 99, 100, 101, 102]⟩ : ByteArray) (ji19), bt (⟨#[48, 49, 50, 51, 52, 53, 54, 55, 56, 57, 97, 98, 99, 100, 101, 102]⟩ : ByteArray) (Go.bits .and .u8 (rd y337 x26_2) 15)] : List Int)) (inner := [.int .u8 (bt (⟨#[48, 49, 50, 51, 52, 53, 54, 55, 56, 57, 97, 98, 99, 100, 101, 102]⟩ : ByteArray) (ji19)), .int .u8 (bt (⟨#[48, 49, 50, 51, 52, 53, 54, 55, 56, 57, 97, 98, 99, 100, 101, 102]⟩ : ByteArray) (Go.bits .and .u8 (rd y337 x26_2) 15))]) (ok := fun _ => True) (okp := fun _ => True) ?hr ?hp (fun _ hk => hk) trivial (Below.refl _ _) (Nat.le_refl _) (by simp) ?_; (case hd => rfl); (case hg => rfl); (case hr => first | (go_simp; done) | (go_simp; rfl)); (case hp => exact (Reps.one (show Kd.M (Kd.int .u8) _ _ _ (bt (⟨#[48, 49, 50, 51, 52, 53, 54, 55, 56, 57, 97, 98, 99, 100, 101, 102]⟩ : ByteArray) (ji19)) [.int .u8 (bt (⟨#[48, 49, 50, 51, 52, 53, 54, 55, 56, 57, 97, 98, 99, 100, 101, 102]⟩ : ByteArray) (ji19))] from rfl) (Reps.one (show Kd.M (Kd.int .u8) _ _ _ (bt (⟨#[48, 49, 50, 51, 52, 53, 54, 55, 56, 57, 97, 98, 99, 100, 101, 102]⟩ : ByteArray) (Go.bits .and .u8 (rd y337 x26_2) 15)) [.int .u8 (bt (⟨#[48, 49, 50, 51, 52, 53, 54, 55, 56, 57, 97, 98, 99, 100, 101, 102]⟩ : ByteArray) (Go.bits .and .u8 (rd y337 x26_2) 15))] from rfl) (Reps.none _ _))))
                                intro v342 w28 ho29 hb hg_ hnew_
                                clear hg_ hnew_
                                (first | rw [← Ny341.out] at ho29 | (simp only [Int.reduceToNat] at ho29; rw [← Ny341.out] at ho29))
                                have n0_ := Aside0.mk (Kd.R_elder' (by (with_reducible repeat (first | apply Kd.R_alloc | apply Go.Proofs.YtjjkagjdbjpikaaDoor.Ext.R_bytes | apply Kd.R_drewN | apply Kd.R_drew)); exact HO_9.out) (Kd.R_base ho29) hb)
                                have n1_ := Aside0.mk (Kd.R_elder' (by (with_reducible repeat (first | apply Kd.R_alloc | apply Go.Proofs.YtjjkagjdbjpikaaDoor.Ext.R_bytes | apply Kd.R_drewN | apply Kd.R_drew)); exact HO_24.out) (Kd.R_base ho29) hb)
                                have n2_ := Aside0.mk (Kd.R_lower (Kd.R_new' (Kd.R_new' ho29 (Kd.R_lt (by (with_reducible repeat (first | apply Kd.R_alloc | apply Go.Proofs.YtjjkagjdbjpikaaDoor.Ext.R_bytes | apply Kd.R_drewN | apply Kd.R_drew)); exact HO_9.out))) (Kd.R_lt (by (with_reducible repeat (first | apply Kd.R_alloc | apply Go.Proofs.YtjjkagjdbjpikaaDoor.Ext.R_bytes | apply Kd.R_drewN | apply Kd.R_drew)); exact HO_24.out))) (below_size (by repeat (first | (with_reducible first | exact HB.out | apply below_alloc | apply Go.Proofs.YtjjkagjdbjpikaaDoor.Ext.below_bytes | apply pw_below_drewN | apply below_drew1) | exact HB.out))))
                                have n3_ := Aside0.mk (below_step (by repeat (first | (with_reducible first | exact HB.out | apply below_alloc | apply Go.Proofs.YtjjkagjdbjpikaaDoor.Ext.below_bytes | apply pw_below_drewN | apply below_drew1) | exact HB.out)) hb)
                                clear HO_9
                                clear HO_24
                                clear HB
                                have HO_9 := n0_
                                have HO_24 := n1_
                                have HO343 := n2_
                                have HB := n3_
                                clear n0_ n1_ n2_ n3_
                                clear hb ho29
                                obtain ⟨Ao31, co31, eo31⟩ := Kd.R_slice HO343.out
                                (first | subst eo31 | (injection eo31 with f1_ f2_ f3_; have f4_ := f1_.symm; have f5_ := f3_.symm; clear f1_ f2_ f3_; subst f4_; subst f5_))
                                refine hK.out _ _ trivial (fun hHeld => ?_)
                                clear hK K
                                refine norm_ (a' := ?_) ?_ ?_
                                rotate_left
                                · show Act.put _ (some 37) _ = _
                                  simp only [Act.put, List.setIfInBounds_toArray, List.set_cons_zero, List.set_cons_succ, i64_w, i32_w]
                                  rfl
                                refine one_ (i := 8) (N := some 38) #[true, true, true, true, true, true, true, true, true, false] rfl rfl (one_of HT_.out (by kernel_rfl)) (by decide) (fun K hK => ?_)
                                refine Kd.R_append_rows_step (Kd.int .u8) (w0 := w) w.heap.size (by rfl) (.tmp 30) (.tmp 37) 32 5 (.int .u8 0) 1 rfl Tryd.underlying32 info5 rfl (by decide) (by omega) u9 x9_2 y341 _ _ _ (fun k_ => some k_ ≠ (.slice (some ad340) y337.length co15 : Value).ownBlock ∧ some k_ ≠ (.slice Ao31 y341.length co31 : Value).ownBlock) (fun _ => False) rfl rfl ?aO ?aR (fun _ _ h => h) (fun _ h => h.elim) ?aF ?aB ?aS ?aL ?_
                                (case aR => repeat (first | exact (Kd.R_reads' HO343.out).2.2 | (with_reducible refine Kd.C_alloc ?_ _) | (with_reducible refine Kd.C_drewN ?_ _) | (with_reducible refine Kd.C_drew ?_)))
                                (case aB => exact (by repeat (first | (with_reducible first | exact HB.out | apply below_alloc | apply Go.Proofs.YtjjkagjdbjpikaaDoor.Ext.below_bytes | apply pw_below_drewN | apply below_drew1) | exact HB.out)))
                                (case aF => exact (fun k_ hk => ⟨Kd.fresh' (Kd.R_lt (by (with_reducible repeat (first | apply Kd.R_alloc | apply Go.Proofs.YtjjkagjdbjpikaaDoor.Ext.R_bytes | apply Kd.R_drewN | apply Kd.R_drew)); exact HO_24.out)) k_ hk, Kd.fresh' (Kd.R_lt (by (with_reducible repeat (first | apply Kd.R_alloc | apply Go.Proofs.YtjjkagjdbjpikaaDoor.Ext.R_bytes | apply Kd.R_drewN | apply Kd.R_drew)); exact HO343.out)) k_ hk⟩))
                                (case aO => exact (by (with_reducible repeat (first | apply Kd.R_alloc | apply Go.Proofs.YtjjkagjdbjpikaaDoor.Ext.R_bytes | apply Kd.R_drewN | apply Kd.R_drew)); exact HO_9.out))
                                (case aS => exact (below_size (by repeat (first | (with_reducible first | exact HB.out | apply below_alloc | apply Go.Proofs.YtjjkagjdbjpikaaDoor.Ext.below_bytes | apply pw_below_drewN | apply below_drew1) | exact HB.out))))
                                (case aL => have := LMc26.out; omega)
                                intro v345 w30 ho hb hg hat
                                rw [← Ny344.out] at ho
                                have n0_ := Aside0.mk (Kd.R_after (ok := (fun k_ => some k_ ≠ (.slice Ao31 y341.length co31 : Value).ownBlock)) (by (with_reducible repeat (first | apply Kd.R_alloc | apply Go.Proofs.YtjjkagjdbjpikaaDoor.Ext.R_bytes | apply Kd.R_drewN | apply Kd.R_drew)); exact Kd.R_mono HO_24.out (fun _ hk => ⟨hk.2, hk.1⟩)) hg hat)
                                have n1_ := Aside0.mk (Kd.R_after (ok := (fun k_ => some k_ ≠ (.slice (some ad340) y337.length co15 : Value).ownBlock)) (by (with_reducible repeat (first | apply Kd.R_alloc | apply Go.Proofs.YtjjkagjdbjpikaaDoor.Ext.R_bytes | apply Kd.R_drewN | apply Kd.R_drew)); exact Kd.R_mono HO343.out (fun _ hk => ⟨hk.2, hk.1.2⟩)) hg hat)
                                have n2_ := Aside0.mk (hb)
                                have n3_ := Aside0.mk (ho)
                                clear HO_24
                                clear HO343
                                clear HB
                                clear HO_9
                                have HO_24 := n0_
                                have HO343 := n1_
                                have HB := n2_
                                have HO346 := n3_
                                clear n0_ n1_ n2_ n3_
                                clear ho hb hg hat
                                refine hK.out _ _ trivial (fun hHeld => ?_)
                                clear hK K
                                refine norm_ (a' := ?_) ?_ ?_
                                rotate_left
                                · show Act.put _ (some 38) _ = _
                                  simp only [Act.put, List.setIfInBounds_toArray, List.set_cons_zero, List.set_cons_succ, i64_w, i32_w]
                                  rfl
                                refine pure_ (i := 9) (N := some 9) (v := ?_) (a' := ?_) #[true, true, true, true, true, true, true, true, true, true] rfl rfl (any_of HT_.out (by kernel_rfl)) (fun _ _ _ h => h) (Or.inl ⟨by rfl, ?_⟩) ?_ ?_
                                rotate_left
                                · intro w'
                                  go_simp
                                  with_reducible rfl
                                rotate_left
                                · simp only [Act.put, List.setIfInBounds_toArray, List.set_cons_zero, List.set_cons_succ, i64_w, i32_w]
                                  rfl
                                refine done_ (done_of HT_.out (by kernel_rfl)) ?_
                                try go_wp2
                                go_roundg k2
                                case measure => have := HJ4.out; have := HK2.out; omega
                                case rel => exact ⟨(y344), (wrap64 (x26_2 + 1)), (by first | rfl | (simp; done) | (simp [*]; done)), H', ⟨by have := HJ4.out; have := HK2.out; omega⟩, ⟨by (with_reducible repeat (first | apply Kd.R_alloc | apply Go.Proofs.YtjjkagjdbjpikaaDoor.Ext.R_bytes | apply Kd.R_drewN | apply Kd.R_drew)); exact Kd.R_mono HO346.out (fun _ hk => hk.1)⟩, ⟨by (with_reducible repeat (first | apply Kd.R_alloc | apply Go.Proofs.YtjjkagjdbjpikaaDoor.Ext.R_bytes | apply Kd.R_drewN | apply Kd.R_drew)); exact Kd.R_mono HO_24.out (fun _ hk => hk.2)⟩, ⟨by repeat (first | (with_reducible first | exact HB.out | apply below_alloc | apply Go.Proofs.YtjjkagjdbjpikaaDoor.Ext.below_bytes | apply pw_below_drewN | apply below_drew1) | exact HB.out)⟩⟩
                              · rw [if_neg c26] at H
                                exact absurd H (by simp)
                            · rw [if_neg c24] at H
                              exact absurd H (by simp)
                          · rw [if_neg c23] at H
                            exact absurd H (by simp)
                        · rw [if_neg c21] at H
                          exact absurd H (by simp)
                      · rw [if_neg c20] at H
                        exact absurd H (by simp)
                    · rw [if_neg c18] at H
                      exact absurd H (by simp)
                  · rw [if_neg c17] at H
                    exact absurd H (by simp)
                · rw [if_neg c16] at H
                  have c16b0 : decide (x26_2 < (y337.length : Int)) = false := decide_eq_false c16
                  clear c16
                  by_cases c32 : 3 + (strOfNums x9_2).size ≤ 9223372036854775807
                  · rw [if_pos c32] at H
                    have c32b0 := eq_true c32
                    have c32b1 : decide (3 + (strOfNums x9_2).size ≤ 9223372036854775807) = true := decide_eq_true c32
                    try have c32b2 : (9223372036854775807 < 3 + (strOfNums x9_2).size) = False := eq_false (Nat.not_lt.2 c32)
                    by_cases c33 : 3 + (strOfNums x9_2).size + 1 ≤ 9223372036854775807
                    · rw [if_pos c33] at H
                      have c33b0 := eq_true c33
                      have c33b1 : decide (3 + (strOfNums x9_2).size + 1 ≤ 9223372036854775807) = true := decide_eq_true c33
                      try have c33b2 : (9223372036854775807 < 3 + (strOfNums x9_2).size + 1) = False := eq_false (Nat.not_lt.2 c33)
                      obtain rfl := Option.some.inj H
                      have hcv34 := own_string (P := Tryd.prog) Tryd.underlying32 Tryd.underlying5 Tryd.underlying9 (Kd.own_of_R HO_9.out)
                      go_wp2
                      go_ret
                      exact ⟨by first | rfl | (simp [errW_none, errW_some] <;> rfl) | (simp [*, errW_none, errW_some] <;> rfl), by repeat (first | (with_reducible first | exact HB.out | apply below_alloc | apply Go.Proofs.YtjjkagjdbjpikaaDoor.Ext.below_bytes | apply pw_below_drewN | apply below_drew1) | exact HB.out)⟩
                    · rw [if_neg c33] at H
                      exact absurd H (by simp)
                  · rw [if_neg c32] at H
                    exact absurd H (by simp)
          · rw [if_neg c9] at H
            exact absurd H (by simp)
        · rw [if_neg c8] at H
          exact absurd H (by simp)

-- NOT PRINTED: function 7 (laws_FnPalette)

/-! ### xansi_LightDarkReport: function 66 -/
def xansi_LightDarkReport.f (a0 : Bool) : Option (ByteArray) := if a0 = true then (some (⟨#[27, 91, 63, 57, 57, 55, 59, 49, 110]⟩ : ByteArray)) else (some (⟨#[27, 91, 63, 57, 57, 55, 59, 50, 110]⟩ : ByteArray))
set_option maxHeartbeats 8000000 in
set_option maxRecDepth 100000 in
theorem xansi_LightDarkReport.calls (a0 : Bool) (r : ByteArray) (w : World) (h : xansi_LightDarkReport.f a0 = some r) :
    Calls Tryd.prog 66 #[.bool a0] w fun e w' => e = .returned (.string r) ∧ Drawn0 w w' := by
  have H : (if a0 = true then (some (⟨#[27, 91, 63, 57, 57, 55, 59, 49, 110]⟩ : ByteArray)) else (some (⟨#[27, 91, 63, 57, 57, 55, 59, 50, 110]⟩ : ByteArray))) = some r := h
  clear h
  by_cases c2 : a0 = true
  · subst c2
    have H1 : (some (⟨#[27, 91, 63, 57, 57, 55, 59, 49, 110]⟩ : ByteArray)) = some r := by rw [if_pos rfl] at H; exact H
    clear H
    have H := H1
    clear H1
    obtain rfl := Option.some.inj H
    go_enter Tryd.func66, Tryd.ntmps66
    go_wp2
    go_ret
    exact ⟨by first | rfl | (simp; done) | (simp [*]; done), by repeat (first | exact Drawn0.refl _ | apply Drawn0.step)⟩
  · replace c2 := Bool.eq_false_iff.mpr c2
    subst c2
    have H1 : (some (⟨#[27, 91, 63, 57, 57, 55, 59, 50, 110]⟩ : ByteArray)) = some r := by rw [if_neg (show ¬ (false = true) by decide)] at H; exact H
    clear H
    have H := H1
    clear H1
    obtain rfl := Option.some.inj H
    go_enter Tryd.func66, Tryd.ntmps66
    go_wp2
    go_ret
    exact ⟨by first | rfl | (simp; done) | (simp [*]; done), by repeat (first | exact Drawn0.refl _ | apply Drawn0.step)⟩

/-! ### impl_LightDark: function 31 -/
def impl_LightDark.f (a0 : Bool) : Option (ByteArray) := (xansi_LightDarkReport.f a0).bind fun t348 => (some t348)
set_option maxHeartbeats 8000000 in
set_option maxRecDepth 100000 in
theorem impl_LightDark.calls (a0 : Bool) (r : ByteArray) (w : World) (h : impl_LightDark.f a0 = some r) :
    Calls Tryd.prog 31 #[.bool a0] w fun e w' => e = .returned (.string r) ∧ Drawn0 w w' := by
  have H : ((xansi_LightDarkReport.f a0).bind fun t348 => (some t348)) = some r := h
  clear h
  replace H := Option.bind_eq_some_iff.mp H
  obtain ⟨t348, A20, H⟩ := H
  replace H : (some t348) = some r := H
  have A2 := Aside0.mk A20
  clear A20
  obtain rfl := Option.some.inj H
  go_enter Tryd.func31, Tryd.ntmps31
  go_wp2_with (first | ((with_reducible refine gate_callee (f := 66) rfl ?_); refine goesL_ (some 4) rfl rfl Tryd.func66 (by kernel_rfl) rfl #[.bool a0] rfl (by (try simp only [List.map_toArray, List.map_cons, List.map_nil]); first | done | rfl | (simp only [List.length_drop, List.length_take]; rfl) | (simp [Act.eval, *]; done)) ?_; (with_reducible refine (xansi_LightDarkReport.calls a0 t348 _ A2.out).mono ?_); rintro e w' ⟨rfl, ⟨nd, rfl⟩⟩; refine ⟨_, rfl, ?_⟩))
  go_ret
  exact ⟨by first | rfl | (simp; done) | (simp [*]; done), by repeat (first | exact Drawn0.refl _ | apply Drawn0.step)⟩

/-! ### spec_MadeLightDark: function 32 -/
def spec_MadeLightDark.f (a0 : Bool) : Option (ByteArray) := if a0 = true then (some (⟨#[27, 91, 63, 57, 57, 55, 59, 49, 110]⟩ : ByteArray)) else (some (⟨#[27, 91, 63, 57, 57, 55, 59, 50, 110]⟩ : ByteArray))
set_option maxHeartbeats 8000000 in
set_option maxRecDepth 100000 in
theorem spec_MadeLightDark.calls (a0 : Bool) (r : ByteArray) (w : World) (h : spec_MadeLightDark.f a0 = some r) :
    Calls Tryd.prog 32 #[.bool a0] w fun e w' => e = .returned (.string r) ∧ Drawn0 w w' := by
  have H : (if a0 = true then (some (⟨#[27, 91, 63, 57, 57, 55, 59, 49, 110]⟩ : ByteArray)) else (some (⟨#[27, 91, 63, 57, 57, 55, 59, 50, 110]⟩ : ByteArray))) = some r := h
  clear h
  by_cases c2 : a0 = true
  · subst c2
    have H1 : (some (⟨#[27, 91, 63, 57, 57, 55, 59, 49, 110]⟩ : ByteArray)) = some r := by rw [if_pos rfl] at H; exact H
    clear H
    have H := H1
    clear H1
    obtain rfl := Option.some.inj H
    go_enter Tryd.func32, Tryd.ntmps32
    go_wp2
    go_ret
    exact ⟨by first | rfl | (simp; done) | (simp [*]; done), by repeat (first | exact Drawn0.refl _ | apply Drawn0.step)⟩
  · replace c2 := Bool.eq_false_iff.mpr c2
    subst c2
    have H1 : (some (⟨#[27, 91, 63, 57, 57, 55, 59, 50, 110]⟩ : ByteArray)) = some r := by rw [if_neg (show ¬ (false = true) by decide)] at H; exact H
    clear H
    have H := H1
    clear H1
    obtain rfl := Option.some.inj H
    go_enter Tryd.func32, Tryd.ntmps32
    go_wp2
    go_ret
    exact ⟨by first | rfl | (simp; done) | (simp [*]; done), by repeat (first | exact Drawn0.refl _ | apply Drawn0.step)⟩

/-! ### laws_FnLightDark: function 11 -/
def laws_FnLightDark.f (k : Nat) (a0 : Bool) : Option (Bool) := (laws_makeAwake.f k).bind fun t349 => (if t349 = true then ((impl_LightDark.f a0).bind fun t350 => ((spec_MadeLightDark.f a0).bind fun t351 => (some (t350.toList == t351.toList)))) else (some false))
theorem laws_FnLightDark.mono : ∀ a0 k, LeO (laws_FnLightDark.f k a0) (laws_FnLightDark.f (k + 1) a0) := by
  intro a0 k
  unfold laws_FnLightDark.f
  repeat' first
      | (with_reducible exact laws_makeAwake.mono _)
      | (with_reducible exact LeO.refl _)
      | (with_reducible exact LeO.none _)
      | (with_reducible refine LeO.ite ?_ ?_)
      | (with_reducible refine LeO.bind ?_ (fun _ => ?_))
      | exact laws_makeAwake.mono _
      | exact LeO.none _
      | refine LeO.ite ?_ ?_
      | refine LeO.bind ?_ (fun _ => ?_)
set_option maxHeartbeats 8000000 in
set_option maxRecDepth 100000 in
theorem laws_FnLightDark.calls (k : Nat) (a0 : Bool) (r : Bool) (w : World) (hLD : Laid w) (h : laws_FnLightDark.f k a0 = some r) :
    Calls Tryd.prog 11 #[.bool a0] w fun e w' => e = .returned (.bool r) ∧ Below w.heap.size w w' := by
  have HLD := Aside0.mk hLD
  clear hLD
  have HB := Aside0.mk (Below.refl w.heap.size w)
  have H : ((laws_makeAwake.f k).bind fun t349 => (if t349 = true then ((impl_LightDark.f a0).bind fun t350 => ((spec_MadeLightDark.f a0).bind fun t351 => (some (t350.toList == t351.toList)))) else (some false))) = some r := h
  clear h
  replace H := Option.bind_eq_some_iff.mp H
  obtain ⟨t349, A20, H⟩ := H
  replace H : (if t349 = true then ((impl_LightDark.f a0).bind fun t350 => ((spec_MadeLightDark.f a0).bind fun t351 => (some (t350.toList == t351.toList)))) else (some false)) = some r := H
  have A2 := Aside0.mk A20
  clear A20
  by_cases c3 : t349 = true
  · subst c3
    have H1 : ((impl_LightDark.f a0).bind fun t350 => ((spec_MadeLightDark.f a0).bind fun t351 => (some (t350.toList == t351.toList)))) = some r := by rw [if_pos rfl] at H; exact H
    clear H
    have H := H1
    clear H1
    replace H := Option.bind_eq_some_iff.mp H
    obtain ⟨t350, A40, H⟩ := H
    replace H : ((spec_MadeLightDark.f a0).bind fun t351 => (some (t350.toList == t351.toList))) = some r := H
    have A4 := Aside0.mk A40
    clear A40
    replace H := Option.bind_eq_some_iff.mp H
    obtain ⟨t351, A50, H⟩ := H
    replace H : (some (t350.toList == t351.toList)) = some r := H
    have A5 := Aside0.mk A50
    clear A50
    obtain rfl := Option.some.inj H
    go_enter Tryd.func11, Tryd.ntmps11
    go_wp2_with (first | ((with_reducible refine gate_callee (f := 14) rfl ?_); refine goesL_ (some 3) rfl rfl Tryd.func14 (by kernel_rfl) rfl #[] rfl (by (try simp only [List.map_toArray, List.map_cons, List.map_nil]); first | done | rfl | (simp only [List.length_drop, List.length_take]; rfl) | (simp [Act.eval, *]; done)) ?_; (with_reducible refine (laws_makeAwake.calls k  true _ ?side1 A2.out).mono ?_); (case side1 => exact HLD.out.below (by repeat (first | (with_reducible first | exact HB.out | apply below_alloc | apply Go.Proofs.YtjjkagjdbjpikaaDoor.Ext.below_bytes | apply pw_below_drewN | apply below_drew1) | exact HB.out))); rintro e w6 ⟨rfl, hb⟩; refine ⟨_, rfl, ?_⟩; have n0_ := Aside0.mk (below_step (by repeat (first | (with_reducible first | exact HB.out | apply below_alloc | apply Go.Proofs.YtjjkagjdbjpikaaDoor.Ext.below_bytes | apply pw_below_drewN | apply below_drew1) | exact HB.out)) hb); clear HB; have HB := n0_; clear n0_; (try clear hb); (try clear hb2); (try clear hk); (try clear hi)) | (go_at_call 31; (with_reducible refine (impl_LightDark.calls a0 t350 _ A4.out).mono ?_); rintro e w' ⟨rfl, ⟨nd, rfl⟩⟩) | (go_at_call 32; (with_reducible refine (spec_MadeLightDark.calls a0 t351 _ A5.out).mono ?_); rintro e w' ⟨rfl, ⟨nd, rfl⟩⟩))
    go_ret
    exact ⟨by first | rfl | (simp [errW_none, errW_some] <;> rfl) | (simp [*, errW_none, errW_some] <;> rfl), by repeat (first | (with_reducible first | exact HB.out | apply below_alloc | apply Go.Proofs.YtjjkagjdbjpikaaDoor.Ext.below_bytes | apply pw_below_drewN | apply below_drew1) | exact HB.out)⟩
  · replace c3 := Bool.eq_false_iff.mpr c3
    subst c3
    have H1 : (some false) = some r := by rw [if_neg (show ¬ (false = true) by decide)] at H; exact H
    clear H
    have H := H1
    clear H1
    obtain rfl := Option.some.inj H
    go_enter Tryd.func11, Tryd.ntmps11
    go_wp2_with (first | ((with_reducible refine gate_callee (f := 14) rfl ?_); refine goesL_ (some 3) rfl rfl Tryd.func14 (by kernel_rfl) rfl #[] rfl (by (try simp only [List.map_toArray, List.map_cons, List.map_nil]); first | done | rfl | (simp only [List.length_drop, List.length_take]; rfl) | (simp [Act.eval, *]; done)) ?_; (with_reducible refine (laws_makeAwake.calls k  false _ ?side1 A2.out).mono ?_); (case side1 => exact HLD.out.below (by repeat (first | (with_reducible first | exact HB.out | apply below_alloc | apply Go.Proofs.YtjjkagjdbjpikaaDoor.Ext.below_bytes | apply pw_below_drewN | apply below_drew1) | exact HB.out))); rintro e w7 ⟨rfl, hb⟩; refine ⟨_, rfl, ?_⟩; have n0_ := Aside0.mk (below_step (by repeat (first | (with_reducible first | exact HB.out | apply below_alloc | apply Go.Proofs.YtjjkagjdbjpikaaDoor.Ext.below_bytes | apply pw_below_drewN | apply below_drew1) | exact HB.out)) hb); clear HB; have HB := n0_; clear n0_; (try clear hb); (try clear hb2); (try clear hk); (try clear hi)))
    go_ret
    exact ⟨by first | rfl | (simp [errW_none, errW_some] <;> rfl) | (simp [*, errW_none, errW_some] <;> rfl), by repeat (first | (with_reducible first | exact HB.out | apply below_alloc | apply Go.Proofs.YtjjkagjdbjpikaaDoor.Ext.below_bytes | apply pw_below_drewN | apply below_drew1) | exact HB.out)⟩

/-- THE ONE PURE STATEMENT of laws_FnLightDark: yours. -/
def laws_FnLightDark.Pure : Prop := ∀ (a0 : Bool), ∃ k, laws_FnLightDark.f k a0 = some true
theorem laws_FnLightDark.walk (P : laws_FnLightDark.Pure) (a0 : Bool) (w : World) (hLD : Laid w)  :
    Calls Tryd.prog 11 #[.bool a0] w fun e w' => e = .returned (.bool true) ∧ Below w.heap.size w w' := by
  obtain ⟨k, h⟩ := P a0 
  refine (laws_FnLightDark.calls k a0 true w hLD h).mono ?_
  rintro e w' ⟨rfl, hd⟩
  exact ⟨rfl, hd⟩

/-! ### xansi_MouseX10: function 65 -/
def xansi_MouseX10.f (a0 : Int) (a1 : Int) (a2 : Int) : Option (ByteArray) := if 3 + ((Utf8.encode ((a0 + 32) % 256)).size) ≤ 9223372036854775807 then (if 3 + ((Utf8.encode ((a0 + 32) % 256)).size) + ((Utf8.encode ((((((a1) % 256) + 32) % 256) + 1) % 256)).size) ≤ 9223372036854775807 then (if 3 + ((Utf8.encode ((a0 + 32) % 256)).size) + ((Utf8.encode ((((((a1) % 256) + 32) % 256) + 1) % 256)).size) + ((Utf8.encode ((((((a2) % 256) + 32) % 256) + 1) % 256)).size) ≤ 9223372036854775807 then (some ((((⟨#[27, 91, 77]⟩ : ByteArray) ++ (Utf8.encode ((a0 + 32) % 256))) ++ (Utf8.encode ((((((a1) % 256) + 32) % 256) + 1) % 256))) ++ (Utf8.encode ((((((a2) % 256) + 32) % 256) + 1) % 256)))) else (none)) else (none)) else (none)
set_option maxHeartbeats 8000000 in
set_option maxRecDepth 100000 in
theorem xansi_MouseX10.calls (a0 : Int) (a1 : Int) (a2 : Int) (r : ByteArray) (w : World) (h : xansi_MouseX10.f a0 a1 a2 = some r) :
    Calls Tryd.prog 65 #[.int .u8 a0, .int .i64 a1, .int .i64 a2] w fun e w' => e = .returned (.string r) ∧ Drawn0 w w' := by
  have H : (if 3 + ((Utf8.encode ((a0 + 32) % 256)).size) ≤ 9223372036854775807 then (if 3 + ((Utf8.encode ((a0 + 32) % 256)).size) + ((Utf8.encode ((((((a1) % 256) + 32) % 256) + 1) % 256)).size) ≤ 9223372036854775807 then (if 3 + ((Utf8.encode ((a0 + 32) % 256)).size) + ((Utf8.encode ((((((a1) % 256) + 32) % 256) + 1) % 256)).size) + ((Utf8.encode ((((((a2) % 256) + 32) % 256) + 1) % 256)).size) ≤ 9223372036854775807 then (some ((((⟨#[27, 91, 77]⟩ : ByteArray) ++ (Utf8.encode ((a0 + 32) % 256))) ++ (Utf8.encode ((((((a1) % 256) + 32) % 256) + 1) % 256))) ++ (Utf8.encode ((((((a2) % 256) + 32) % 256) + 1) % 256)))) else (none)) else (none)) else (none)) = some r := h
  clear h
  by_cases c4 : 3 + ((Utf8.encode ((a0 + 32) % 256)).size) ≤ 9223372036854775807
  · rw [if_pos c4] at H
    have c4b0 := eq_true c4
    have c4b1 : decide (3 + ((Utf8.encode ((a0 + 32) % 256)).size) ≤ 9223372036854775807) = true := decide_eq_true c4
    try have c4b2 : (9223372036854775807 < 3 + ((Utf8.encode ((a0 + 32) % 256)).size)) = False := eq_false (Nat.not_lt.2 c4)
    (try simp only [Int.emod_add_emod, Int.add_emod_emod, Int.emod_emod, Int.emod_sub_emod, Int.sub_emod_emod] at c4b0)
    (try simp only [Int.emod_add_emod, Int.add_emod_emod, Int.emod_emod, Int.emod_sub_emod, Int.sub_emod_emod] at c4b1)
    (try simp only [Int.emod_add_emod, Int.add_emod_emod, Int.emod_emod, Int.emod_sub_emod, Int.sub_emod_emod] at c4b2)
    by_cases c5 : 3 + ((Utf8.encode ((a0 + 32) % 256)).size) + ((Utf8.encode ((((((a1) % 256) + 32) % 256) + 1) % 256)).size) ≤ 9223372036854775807
    · rw [if_pos c5] at H
      have c5b0 := eq_true c5
      have c5b1 : decide (3 + ((Utf8.encode ((a0 + 32) % 256)).size) + ((Utf8.encode ((((((a1) % 256) + 32) % 256) + 1) % 256)).size) ≤ 9223372036854775807) = true := decide_eq_true c5
      try have c5b2 : (9223372036854775807 < 3 + ((Utf8.encode ((a0 + 32) % 256)).size) + ((Utf8.encode ((((((a1) % 256) + 32) % 256) + 1) % 256)).size)) = False := eq_false (Nat.not_lt.2 c5)
      (try simp only [Int.emod_add_emod, Int.add_emod_emod, Int.emod_emod, Int.emod_sub_emod, Int.sub_emod_emod] at c5b0)
      (try simp only [Int.emod_add_emod, Int.add_emod_emod, Int.emod_emod, Int.emod_sub_emod, Int.sub_emod_emod] at c5b1)
      (try simp only [Int.emod_add_emod, Int.add_emod_emod, Int.emod_emod, Int.emod_sub_emod, Int.sub_emod_emod] at c5b2)
      by_cases c6 : 3 + ((Utf8.encode ((a0 + 32) % 256)).size) + ((Utf8.encode ((((((a1) % 256) + 32) % 256) + 1) % 256)).size) + ((Utf8.encode ((((((a2) % 256) + 32) % 256) + 1) % 256)).size) ≤ 9223372036854775807
      · rw [if_pos c6] at H
        have c6b0 := eq_true c6
        have c6b1 : decide (3 + ((Utf8.encode ((a0 + 32) % 256)).size) + ((Utf8.encode ((((((a1) % 256) + 32) % 256) + 1) % 256)).size) + ((Utf8.encode ((((((a2) % 256) + 32) % 256) + 1) % 256)).size) ≤ 9223372036854775807) = true := decide_eq_true c6
        try have c6b2 : (9223372036854775807 < 3 + ((Utf8.encode ((a0 + 32) % 256)).size) + ((Utf8.encode ((((((a1) % 256) + 32) % 256) + 1) % 256)).size) + ((Utf8.encode ((((((a2) % 256) + 32) % 256) + 1) % 256)).size)) = False := eq_false (Nat.not_lt.2 c6)
        (try simp only [Int.emod_add_emod, Int.add_emod_emod, Int.emod_emod, Int.emod_sub_emod, Int.sub_emod_emod] at c6b0)
        (try simp only [Int.emod_add_emod, Int.add_emod_emod, Int.emod_emod, Int.emod_sub_emod, Int.sub_emod_emod] at c6b1)
        (try simp only [Int.emod_add_emod, Int.add_emod_emod, Int.emod_emod, Int.emod_sub_emod, Int.sub_emod_emod] at c6b2)
        obtain rfl := Option.some.inj H
        go_enter Tryd.func65, Tryd.ntmps65
        go_wp2
        go_ret
        exact ⟨by first | rfl | (simp; done) | (simp [*]; done), by repeat (first | exact Drawn0.refl _ | apply Drawn0.step)⟩
      · rw [if_neg c6] at H
        exact absurd H (by simp)
    · rw [if_neg c5] at H
      exact absurd H (by simp)
  · rw [if_neg c4] at H
    exact absurd H (by simp)

/-! ### impl_MouseX10: function 29 -/
def impl_MouseX10.f (a0 : Int) (a1 : Int) (a2 : Int) : Option (ByteArray) := (xansi_MouseX10.f a0 a1 a2).bind fun t352 => (some t352)
set_option maxHeartbeats 8000000 in
set_option maxRecDepth 100000 in
theorem impl_MouseX10.calls (a0 : Int) (a1 : Int) (a2 : Int) (r : ByteArray) (w : World) (h : impl_MouseX10.f a0 a1 a2 = some r) :
    Calls Tryd.prog 29 #[.int .u8 a0, .int .i64 a1, .int .i64 a2] w fun e w' => e = .returned (.string r) ∧ Drawn0 w w' := by
  have H : ((xansi_MouseX10.f a0 a1 a2).bind fun t352 => (some t352)) = some r := h
  clear h
  replace H := Option.bind_eq_some_iff.mp H
  obtain ⟨t352, A40, H⟩ := H
  replace H : (some t352) = some r := H
  have A4 := Aside0.mk A40
  clear A40
  obtain rfl := Option.some.inj H
  go_enter Tryd.func29, Tryd.ntmps29
  go_wp2_with (first | ((with_reducible refine gate_callee (f := 65) rfl ?_); refine goesL_ (some 10) rfl rfl Tryd.func65 (by kernel_rfl) rfl #[.int .u8 a0, .int .i64 a1, .int .i64 a2] rfl (by (try simp only [List.map_toArray, List.map_cons, List.map_nil]); first | done | rfl | (simp only [List.length_drop, List.length_take]; rfl) | (simp [Act.eval, *]; done)) ?_; (with_reducible refine (xansi_MouseX10.calls a0 a1 a2 t352 _ A4.out).mono ?_); rintro e w' ⟨rfl, ⟨nd, rfl⟩⟩; refine ⟨_, rfl, ?_⟩))
  go_ret
  exact ⟨by first | rfl | (simp; done) | (simp [*]; done), by repeat (first | exact Drawn0.refl _ | apply Drawn0.step)⟩

/-! ### spec_MadeX10: function 30 -/
def spec_MadeX10.f (a0 : Int) (a1 : Int) (a2 : Int) : Option (ByteArray) := (spec_madeCode.f ((a0 + 32) % 256)).bind fun t353 => (if 3 + t353.size ≤ 9223372036854775807 then ((spec_madeCode.f ((a1 + 33) % 256)).bind fun t354 => (if 3 + t353.size + t354.size ≤ 9223372036854775807 then ((spec_madeCode.f ((a2 + 33) % 256)).bind fun t355 => (if 3 + t353.size + t354.size + t355.size ≤ 9223372036854775807 then (some ((((⟨#[27, 91, 77]⟩ : ByteArray) ++ t353) ++ t354) ++ t355)) else (none))) else (none))) else (none))
set_option maxHeartbeats 8000000 in
set_option maxRecDepth 100000 in
theorem spec_MadeX10.calls (a0 : Int) (a1 : Int) (a2 : Int) (r : ByteArray) (w : World) (h : spec_MadeX10.f a0 a1 a2 = some r) :
    Calls Tryd.prog 30 #[.int .u8 a0, .int .u8 a1, .int .u8 a2] w fun e w' => e = .returned (.string r) ∧ Below w.heap.size w w' := by
  have HB := Aside0.mk (Below.refl w.heap.size w)
  have H : ((spec_madeCode.f ((a0 + 32) % 256)).bind fun t353 => (if 3 + t353.size ≤ 9223372036854775807 then ((spec_madeCode.f ((a1 + 33) % 256)).bind fun t354 => (if 3 + t353.size + t354.size ≤ 9223372036854775807 then ((spec_madeCode.f ((a2 + 33) % 256)).bind fun t355 => (if 3 + t353.size + t354.size + t355.size ≤ 9223372036854775807 then (some ((((⟨#[27, 91, 77]⟩ : ByteArray) ++ t353) ++ t354) ++ t355)) else (none))) else (none))) else (none))) = some r := h
  clear h
  replace H := Option.bind_eq_some_iff.mp H
  obtain ⟨t353, A40, H⟩ := H
  replace H : (if 3 + t353.size ≤ 9223372036854775807 then ((spec_madeCode.f ((a1 + 33) % 256)).bind fun t354 => (if 3 + t353.size + t354.size ≤ 9223372036854775807 then ((spec_madeCode.f ((a2 + 33) % 256)).bind fun t355 => (if 3 + t353.size + t354.size + t355.size ≤ 9223372036854775807 then (some ((((⟨#[27, 91, 77]⟩ : ByteArray) ++ t353) ++ t354) ++ t355)) else (none))) else (none))) else (none)) = some r := H
  have A4 := Aside0.mk A40
  clear A40
  by_cases c5 : 3 + t353.size ≤ 9223372036854775807
  · rw [if_pos c5] at H
    have c5b0 := eq_true c5
    have c5b1 : decide (3 + t353.size ≤ 9223372036854775807) = true := decide_eq_true c5
    try have c5b2 : (9223372036854775807 < 3 + t353.size) = False := eq_false (Nat.not_lt.2 c5)
    replace H := Option.bind_eq_some_iff.mp H
    obtain ⟨t354, A60, H⟩ := H
    replace H : (if 3 + t353.size + t354.size ≤ 9223372036854775807 then ((spec_madeCode.f ((a2 + 33) % 256)).bind fun t355 => (if 3 + t353.size + t354.size + t355.size ≤ 9223372036854775807 then (some ((((⟨#[27, 91, 77]⟩ : ByteArray) ++ t353) ++ t354) ++ t355)) else (none))) else (none)) = some r := H
    have A6 := Aside0.mk A60
    clear A60
    by_cases c7 : 3 + t353.size + t354.size ≤ 9223372036854775807
    · rw [if_pos c7] at H
      have c7b0 := eq_true c7
      have c7b1 : decide (3 + t353.size + t354.size ≤ 9223372036854775807) = true := decide_eq_true c7
      try have c7b2 : (9223372036854775807 < 3 + t353.size + t354.size) = False := eq_false (Nat.not_lt.2 c7)
      replace H := Option.bind_eq_some_iff.mp H
      obtain ⟨t355, A80, H⟩ := H
      replace H : (if 3 + t353.size + t354.size + t355.size ≤ 9223372036854775807 then (some ((((⟨#[27, 91, 77]⟩ : ByteArray) ++ t353) ++ t354) ++ t355)) else (none)) = some r := H
      have A8 := Aside0.mk A80
      clear A80
      by_cases c9 : 3 + t353.size + t354.size + t355.size ≤ 9223372036854775807
      · rw [if_pos c9] at H
        have c9b0 := eq_true c9
        have c9b1 : decide (3 + t353.size + t354.size + t355.size ≤ 9223372036854775807) = true := decide_eq_true c9
        try have c9b2 : (9223372036854775807 < 3 + t353.size + t354.size + t355.size) = False := eq_false (Nat.not_lt.2 c9)
        obtain rfl := Option.some.inj H
        go_enter Tryd.func30, Tryd.ntmps30
        go_wp2_with (first | ((with_reducible refine gate_callee (f := 50) rfl ?_); refine goesL_ (some 9) rfl rfl Tryd.func50 (by kernel_rfl) rfl #[.int .u8 ((a0 + 32) % 256)] rfl (by (try simp only [List.map_toArray, List.map_cons, List.map_nil]); first | done | rfl | (simp only [List.length_drop, List.length_take]; rfl) | (simp [Act.eval, *]; done)) ?_; (with_reducible refine (spec_madeCode.calls ((a0 + 32) % 256) t353 _ A4.out).mono ?_); rintro e w10 ⟨rfl, hb⟩; refine ⟨_, rfl, ?_⟩; have n0_ := Aside0.mk (below_step (by repeat (first | (with_reducible first | exact HB.out | apply below_alloc | apply Go.Proofs.YtjjkagjdbjpikaaDoor.Ext.below_bytes | apply pw_below_drewN | apply below_drew1) | exact HB.out)) hb); clear HB; have HB := n0_; clear n0_; (try clear hb); (try clear hb2); (try clear hk); (try clear hi)) | ((with_reducible refine gate_callee (f := 50) rfl ?_); refine goesL_ (some 13) rfl rfl Tryd.func50 (by kernel_rfl) rfl #[.int .u8 ((a1 + 33) % 256)] rfl (by (try simp only [List.map_toArray, List.map_cons, List.map_nil]); first | done | rfl | (simp only [List.length_drop, List.length_take]; rfl) | (simp [Act.eval, *]; done)) ?_; (with_reducible refine (spec_madeCode.calls ((a1 + 33) % 256) t354 _ A6.out).mono ?_); rintro e w11 ⟨rfl, hb⟩; refine ⟨_, rfl, ?_⟩; have n0_ := Aside0.mk (below_step (by repeat (first | (with_reducible first | exact HB.out | apply below_alloc | apply Go.Proofs.YtjjkagjdbjpikaaDoor.Ext.below_bytes | apply pw_below_drewN | apply below_drew1) | exact HB.out)) hb); clear HB; have HB := n0_; clear n0_; (try clear hb); (try clear hb2); (try clear hk); (try clear hi)) | ((with_reducible refine gate_callee (f := 50) rfl ?_); refine goesL_ (some 17) rfl rfl Tryd.func50 (by kernel_rfl) rfl #[.int .u8 ((a2 + 33) % 256)] rfl (by (try simp only [List.map_toArray, List.map_cons, List.map_nil]); first | done | rfl | (simp only [List.length_drop, List.length_take]; rfl) | (simp [Act.eval, *]; done)) ?_; (with_reducible refine (spec_madeCode.calls ((a2 + 33) % 256) t355 _ A8.out).mono ?_); rintro e w12 ⟨rfl, hb⟩; refine ⟨_, rfl, ?_⟩; have n0_ := Aside0.mk (below_step (by repeat (first | (with_reducible first | exact HB.out | apply below_alloc | apply Go.Proofs.YtjjkagjdbjpikaaDoor.Ext.below_bytes | apply pw_below_drewN | apply below_drew1) | exact HB.out)) hb); clear HB; have HB := n0_; clear n0_; (try clear hb); (try clear hb2); (try clear hk); (try clear hi)))
        go_ret
        exact ⟨by first | rfl | (simp [errW_none, errW_some] <;> rfl) | (simp [*, errW_none, errW_some] <;> rfl), by repeat (first | (with_reducible first | exact HB.out | apply below_alloc | apply Go.Proofs.YtjjkagjdbjpikaaDoor.Ext.below_bytes | apply pw_below_drewN | apply below_drew1) | exact HB.out)⟩
      · rw [if_neg c9] at H
        exact absurd H (by simp)
    · rw [if_neg c7] at H
      exact absurd H (by simp)
  · rw [if_neg c5] at H
    exact absurd H (by simp)

/-! ### laws_FnMouseX10: function 10 -/
def laws_FnMouseX10.j0 : Nat → Int → Int → Int → Bool → Option (Bool)
  | 0, _, _, _, _ => none
  | k + 1, x0, x1, x2, x24 => if x24 = true then ((laws_makeAwake.f k).bind fun t356 => (some t356)) else ((laws_makeAwake.f k).bind fun t357 => (if t357 = true then ((impl_MouseX10.f x0 x1 x2).bind fun t358 => ((spec_MadeX10.f x0 ((Go.bits .and .i64 x1 255) % 256) ((Go.bits .and .i64 x2 255) % 256)).bind fun t359 => (some (t358.toList == t359.toList)))) else (some false)))
def laws_FnMouseX10.f (k : Nat) (a0 : Int) (a1 : Int) (a2 : Int) : Option (Bool) := if a0 > 95 then (laws_FnMouseX10.j0 k a0 a1 a2 true) else (if a1 < 0 then (laws_FnMouseX10.j0 k a0 a1 a2 true) else (if a1 > 94 then (laws_FnMouseX10.j0 k a0 a1 a2 true) else (if a2 < 0 then (laws_FnMouseX10.j0 k a0 a1 a2 true) else (laws_FnMouseX10.j0 k a0 a1 a2 (decide (a2 > 94))))))
theorem laws_FnMouseX10.mono_l : ∀ k, (∀ y0 y1 y2 y3, LeO (laws_FnMouseX10.j0 k y0 y1 y2 y3) (laws_FnMouseX10.j0 (k + 1) y0 y1 y2 y3))
  | 0 => fun _ _ _ _ r h => by simp [laws_FnMouseX10.j0] at h
  | k + 1 => by
    have ih0 := laws_FnMouseX10.mono_l k
    · intro y0 y1 y2 y3
      unfold laws_FnMouseX10.j0
      repeat' first
      | (with_reducible exact ih0 _ _ _ _)
      | (with_reducible exact laws_makeAwake.mono _)
      | (with_reducible exact LeO.refl _)
      | (with_reducible exact LeO.none _)
      | (with_reducible refine LeO.ite ?_ ?_)
      | (with_reducible refine LeO.bind ?_ (fun _ => ?_))
      | exact ih0 _ _ _ _
      | exact laws_makeAwake.mono _
      | exact LeO.none _
      | refine LeO.ite ?_ ?_
      | refine LeO.bind ?_ (fun _ => ?_)
theorem laws_FnMouseX10.mono : ∀ a0 a1 a2 k, LeO (laws_FnMouseX10.f k a0 a1 a2) (laws_FnMouseX10.f (k + 1) a0 a1 a2) := by
  intro a0 a1 a2 k
  have ih0 := laws_FnMouseX10.mono_l k
  unfold laws_FnMouseX10.f
  repeat' first
      | (with_reducible exact ih0 _ _ _ _)
      | (with_reducible exact laws_makeAwake.mono _)
      | (with_reducible exact LeO.refl _)
      | (with_reducible exact LeO.none _)
      | (with_reducible refine LeO.ite ?_ ?_)
      | (with_reducible refine LeO.bind ?_ (fun _ => ?_))
      | exact ih0 _ _ _ _
      | exact laws_makeAwake.mono _
      | exact LeO.none _
      | refine LeO.ite ?_ ?_
      | refine LeO.bind ?_ (fun _ => ?_)
set_option maxHeartbeats 8000000 in
set_option maxRecDepth 100000 in
theorem laws_FnMouseX10.calls (k : Nat) (a0 : Int) (a1 : Int) (a2 : Int) (r : Bool) (w : World) (hLD : Laid w) (h : laws_FnMouseX10.f k a0 a1 a2 = some r) :
    Calls Tryd.prog 10 #[.int .u8 a0, .int .i64 a1, .int .i64 a2] w fun e w' => e = .returned (.bool r) ∧ Below w.heap.size w w' := by
  have HLD := Aside0.mk hLD
  clear hLD
  have HB := Aside0.mk (Below.refl w.heap.size w)
  have H : (if a0 > 95 then (laws_FnMouseX10.j0 k a0 a1 a2 true) else (if a1 < 0 then (laws_FnMouseX10.j0 k a0 a1 a2 true) else (if a1 > 94 then (laws_FnMouseX10.j0 k a0 a1 a2 true) else (if a2 < 0 then (laws_FnMouseX10.j0 k a0 a1 a2 true) else (laws_FnMouseX10.j0 k a0 a1 a2 (decide (a2 > 94))))))) = some r := h
  clear h
  have HC4 := Aside0.mk H
  clear H
  go_enter Tryd.func10, Tryd.ntmps10
  go_upto_region 1 with (fail)
  go_cut [24] (fun v24 wc => ∃ (kq : Nat) (x24_3 : Bool), v24 = .bool x24_3 ∧ Aside0 (laws_FnMouseX10.j0 kq a0 a1 a2 x24_3 = some r) ∧ Aside0 (kq ≤ k) ∧ Aside0 (Below w.heap.size w wc))
  case first =>
    have H := HC4.out
    clear HC4
    by_cases c5 : a0 > 95
    · rw [if_pos c5] at H
      have c5b0 : decide (95 < a0) = true := decide_eq_true c5
      clear c5
      (first | rw [c5b0] | (simp only [i64_w, i32_w]; rw [c5b0]) | skip)
      have H' := Aside0.mk H
      clear H
      go_wp2
      go_meet
      case rel => exact ⟨_, (true), (by first | rfl | (simp; done) | (simp [*]; done)), H', ⟨by first | omega | exact Nat.le_refl _⟩, ⟨by repeat (first | (with_reducible first | exact HB.out | apply below_alloc | apply Go.Proofs.YtjjkagjdbjpikaaDoor.Ext.below_bytes | apply pw_below_drewN | apply below_drew1) | exact HB.out)⟩⟩
    · rw [if_neg c5] at H
      have c5b0 : decide (95 < a0) = false := decide_eq_false c5
      clear c5
      (first | rw [c5b0] | (simp only [i64_w, i32_w]; rw [c5b0]) | skip)
      by_cases c6 : a1 < 0
      · rw [if_pos c6] at H
        have c6b0 : decide (a1 < 0) = true := decide_eq_true c6
        clear c6
        have H' := Aside0.mk H
        clear H
        go_wp2
        go_meet
        case rel => exact ⟨_, (true), (by first | rfl | (simp; done) | (simp [*]; done)), H', ⟨by first | omega | exact Nat.le_refl _⟩, ⟨by repeat (first | (with_reducible first | exact HB.out | apply below_alloc | apply Go.Proofs.YtjjkagjdbjpikaaDoor.Ext.below_bytes | apply pw_below_drewN | apply below_drew1) | exact HB.out)⟩⟩
      · rw [if_neg c6] at H
        have c6b0 : decide (a1 < 0) = false := decide_eq_false c6
        clear c6
        by_cases c7 : a1 > 94
        · rw [if_pos c7] at H
          have c7b0 : decide (94 < a1) = true := decide_eq_true c7
          clear c7
          have H' := Aside0.mk H
          clear H
          go_wp2
          go_meet
          case rel => exact ⟨_, (true), (by first | rfl | (simp; done) | (simp [*]; done)), H', ⟨by first | omega | exact Nat.le_refl _⟩, ⟨by repeat (first | (with_reducible first | exact HB.out | apply below_alloc | apply Go.Proofs.YtjjkagjdbjpikaaDoor.Ext.below_bytes | apply pw_below_drewN | apply below_drew1) | exact HB.out)⟩⟩
        · rw [if_neg c7] at H
          have c7b0 : decide (94 < a1) = false := decide_eq_false c7
          clear c7
          by_cases c8 : a2 < 0
          · rw [if_pos c8] at H
            have c8b0 : decide (a2 < 0) = true := decide_eq_true c8
            clear c8
            have H' := Aside0.mk H
            clear H
            go_wp2
            go_meet
            case rel => exact ⟨_, (true), (by first | rfl | (simp; done) | (simp [*]; done)), H', ⟨by first | omega | exact Nat.le_refl _⟩, ⟨by repeat (first | (with_reducible first | exact HB.out | apply below_alloc | apply Go.Proofs.YtjjkagjdbjpikaaDoor.Ext.below_bytes | apply pw_below_drewN | apply below_drew1) | exact HB.out)⟩⟩
          · rw [if_neg c8] at H
            have c8b0 : decide (a2 < 0) = false := decide_eq_false c8
            clear c8
            have H' := Aside0.mk H
            clear H
            go_wp2
            go_meet
            case rel => exact ⟨_, (decide (a2 > 94)), (by first | rfl | (simp; done) | (simp [*]; done)), H', ⟨by first | omega | exact Nat.le_refl _⟩, ⟨by repeat (first | (with_reducible first | exact HB.out | apply below_alloc | apply Go.Proofs.YtjjkagjdbjpikaaDoor.Ext.below_bytes | apply pw_below_drewN | apply below_drew1) | exact HB.out)⟩⟩
  case rest =>
    clear HC4
    try clear c1
    try clear p2
    try clear c5
    try clear c5b0
    try clear c6
    try clear c6b0
    try clear c7
    try clear c7b0
    try clear c8
    try clear c8b0
    obtain ⟨kq, x24_3, rfl, HA, HJ3, HB⟩ := hcut
    cases kq with
    | zero => exact absurd HA.out (by simp [laws_FnMouseX10.j0])
    | succ kj3 =>
      have H := HA.out
      clear HA
      simp only [laws_FnMouseX10.j0] at H
      by_cases c9 : x24_3 = true
      · subst c9
        have H1 : ((laws_makeAwake.f kj3).bind fun t356 => (some t356)) = some r := by rw [if_pos rfl] at H; exact H
        clear H
        have H := H1
        clear H1
        replace H := Option.bind_eq_some_iff.mp H
        obtain ⟨t356, A100, H⟩ := H
        replace H : (some t356) = some r := H
        have A10 := Aside0.mk A100
        clear A100
        obtain rfl := Option.some.inj H
        go_wp2_with (first | ((with_reducible refine gate_callee (f := 14) rfl ?_); refine goesL_ (some 25) rfl rfl Tryd.func14 (by kernel_rfl) rfl #[] rfl (by (try simp only [List.map_toArray, List.map_cons, List.map_nil]); first | done | rfl | (simp only [List.length_drop, List.length_take]; rfl) | (simp [Act.eval, *]; done)) ?_; (with_reducible refine (laws_makeAwake.calls kj3  t356 _ ?side1 A10.out).mono ?_); (case side1 => exact HLD.out.below (by repeat (first | (with_reducible first | exact HB.out | apply below_alloc | apply Go.Proofs.YtjjkagjdbjpikaaDoor.Ext.below_bytes | apply pw_below_drewN | apply below_drew1) | exact HB.out))); rintro e w11 ⟨rfl, hb⟩; refine ⟨_, rfl, ?_⟩; have n0_ := Aside0.mk (below_step (by repeat (first | (with_reducible first | exact HB.out | apply below_alloc | apply Go.Proofs.YtjjkagjdbjpikaaDoor.Ext.below_bytes | apply pw_below_drewN | apply below_drew1) | exact HB.out)) hb); clear HB; have HB := n0_; clear n0_; (try clear hb); (try clear hb2); (try clear hk); (try clear hi)))
        go_ret
        exact ⟨by first | rfl | (simp [errW_none, errW_some] <;> rfl) | (simp [*, errW_none, errW_some] <;> rfl), by repeat (first | (with_reducible first | exact HB.out | apply below_alloc | apply Go.Proofs.YtjjkagjdbjpikaaDoor.Ext.below_bytes | apply pw_below_drewN | apply below_drew1) | exact HB.out)⟩
      · replace c9 := Bool.eq_false_iff.mpr c9
        subst c9
        have H1 : ((laws_makeAwake.f kj3).bind fun t357 => (if t357 = true then ((impl_MouseX10.f a0 a1 a2).bind fun t358 => ((spec_MadeX10.f a0 ((Go.bits .and .i64 a1 255) % 256) ((Go.bits .and .i64 a2 255) % 256)).bind fun t359 => (some (t358.toList == t359.toList)))) else (some false))) = some r := by rw [if_neg (show ¬ (false = true) by decide)] at H; exact H
        clear H
        have H := H1
        clear H1
        replace H := Option.bind_eq_some_iff.mp H
        obtain ⟨t357, A120, H⟩ := H
        replace H : (if t357 = true then ((impl_MouseX10.f a0 a1 a2).bind fun t358 => ((spec_MadeX10.f a0 ((Go.bits .and .i64 a1 255) % 256) ((Go.bits .and .i64 a2 255) % 256)).bind fun t359 => (some (t358.toList == t359.toList)))) else (some false)) = some r := H
        have A12 := Aside0.mk A120
        clear A120
        by_cases c13 : t357 = true
        · subst c13
          have H1 : ((impl_MouseX10.f a0 a1 a2).bind fun t358 => ((spec_MadeX10.f a0 ((Go.bits .and .i64 a1 255) % 256) ((Go.bits .and .i64 a2 255) % 256)).bind fun t359 => (some (t358.toList == t359.toList)))) = some r := by rw [if_pos rfl] at H; exact H
          clear H
          have H := H1
          clear H1
          replace H := Option.bind_eq_some_iff.mp H
          obtain ⟨t358, A140, H⟩ := H
          replace H : ((spec_MadeX10.f a0 ((Go.bits .and .i64 a1 255) % 256) ((Go.bits .and .i64 a2 255) % 256)).bind fun t359 => (some (t358.toList == t359.toList))) = some r := H
          have A14 := Aside0.mk A140
          clear A140
          replace H := Option.bind_eq_some_iff.mp H
          obtain ⟨t359, A150, H⟩ := H
          replace H : (some (t358.toList == t359.toList)) = some r := H
          have A15 := Aside0.mk A150
          clear A150
          obtain rfl := Option.some.inj H
          go_wp2_with (first | ((with_reducible refine gate_callee (f := 14) rfl ?_); refine goesL_ (some 26) rfl rfl Tryd.func14 (by kernel_rfl) rfl #[] rfl (by (try simp only [List.map_toArray, List.map_cons, List.map_nil]); first | done | rfl | (simp only [List.length_drop, List.length_take]; rfl) | (simp [Act.eval, *]; done)) ?_; (with_reducible refine (laws_makeAwake.calls kj3  true _ ?side1 A12.out).mono ?_); (case side1 => exact HLD.out.below (by repeat (first | (with_reducible first | exact HB.out | apply below_alloc | apply Go.Proofs.YtjjkagjdbjpikaaDoor.Ext.below_bytes | apply pw_below_drewN | apply below_drew1) | exact HB.out))); rintro e w16 ⟨rfl, hb⟩; refine ⟨_, rfl, ?_⟩; have n0_ := Aside0.mk (below_step (by repeat (first | (with_reducible first | exact HB.out | apply below_alloc | apply Go.Proofs.YtjjkagjdbjpikaaDoor.Ext.below_bytes | apply pw_below_drewN | apply below_drew1) | exact HB.out)) hb); clear HB; have HB := n0_; clear n0_; (try clear hb); (try clear hb2); (try clear hk); (try clear hi)) | (go_at_call 29; (with_reducible refine (impl_MouseX10.calls a0 a1 a2 t358 _ A14.out).mono ?_); rintro e w' ⟨rfl, ⟨nd, rfl⟩⟩) | (go_at_call 30; (with_reducible refine (spec_MadeX10.calls a0 ((Go.bits .and .i64 a1 255) % 256) ((Go.bits .and .i64 a2 255) % 256) t359 _ A15.out).mono ?_); rintro e w17 ⟨rfl, hb⟩; have n0_ := Aside0.mk (below_step (by repeat (first | (with_reducible first | exact HB.out | apply below_alloc | apply Go.Proofs.YtjjkagjdbjpikaaDoor.Ext.below_bytes | apply pw_below_drewN | apply below_drew1) | exact HB.out)) hb); clear HB; have HB := n0_; clear n0_; (try clear hb); (try clear hb2); (try clear hk); (try clear hi)))
          go_ret
          exact ⟨by first | rfl | (simp [errW_none, errW_some] <;> rfl) | (simp [*, errW_none, errW_some] <;> rfl), by repeat (first | (with_reducible first | exact HB.out | apply below_alloc | apply Go.Proofs.YtjjkagjdbjpikaaDoor.Ext.below_bytes | apply pw_below_drewN | apply below_drew1) | exact HB.out)⟩
        · replace c13 := Bool.eq_false_iff.mpr c13
          subst c13
          have H1 : (some false) = some r := by rw [if_neg (show ¬ (false = true) by decide)] at H; exact H
          clear H
          have H := H1
          clear H1
          obtain rfl := Option.some.inj H
          go_wp2_with (first | ((with_reducible refine gate_callee (f := 14) rfl ?_); refine goesL_ (some 26) rfl rfl Tryd.func14 (by kernel_rfl) rfl #[] rfl (by (try simp only [List.map_toArray, List.map_cons, List.map_nil]); first | done | rfl | (simp only [List.length_drop, List.length_take]; rfl) | (simp [Act.eval, *]; done)) ?_; (with_reducible refine (laws_makeAwake.calls kj3  false _ ?side1 A12.out).mono ?_); (case side1 => exact HLD.out.below (by repeat (first | (with_reducible first | exact HB.out | apply below_alloc | apply Go.Proofs.YtjjkagjdbjpikaaDoor.Ext.below_bytes | apply pw_below_drewN | apply below_drew1) | exact HB.out))); rintro e w18 ⟨rfl, hb⟩; refine ⟨_, rfl, ?_⟩; have n0_ := Aside0.mk (below_step (by repeat (first | (with_reducible first | exact HB.out | apply below_alloc | apply Go.Proofs.YtjjkagjdbjpikaaDoor.Ext.below_bytes | apply pw_below_drewN | apply below_drew1) | exact HB.out)) hb); clear HB; have HB := n0_; clear n0_; (try clear hb); (try clear hb2); (try clear hk); (try clear hi)))
          go_ret
          exact ⟨by first | rfl | (simp [errW_none, errW_some] <;> rfl) | (simp [*, errW_none, errW_some] <;> rfl), by repeat (first | (with_reducible first | exact HB.out | apply below_alloc | apply Go.Proofs.YtjjkagjdbjpikaaDoor.Ext.below_bytes | apply pw_below_drewN | apply below_drew1) | exact HB.out)⟩

/-- THE ONE PURE STATEMENT of laws_FnMouseX10: yours. -/
def laws_FnMouseX10.Pure : Prop := ∀ (a0 : Int) (a1 : Int) (a2 : Int), (Lit.int .u8 a0).wf = true → (Lit.int .i64 a1).wf = true → (Lit.int .i64 a2).wf = true → ∃ k, laws_FnMouseX10.f k a0 a1 a2 = some true
theorem laws_FnMouseX10.walk (P : laws_FnMouseX10.Pure) (a0 : Int) (a1 : Int) (a2 : Int) (w : World) (hLD : Laid w) (w0 : (Lit.int .u8 a0).wf = true) (w1 : (Lit.int .i64 a1).wf = true) (w2 : (Lit.int .i64 a2).wf = true) :
    Calls Tryd.prog 10 #[.int .u8 a0, .int .i64 a1, .int .i64 a2] w fun e w' => e = .returned (.bool true) ∧ Below w.heap.size w w' := by
  obtain ⟨k, h⟩ := P a0 a1 a2 w0 w1 w2
  refine (laws_FnMouseX10.calls k a0 a1 a2 true w hLD h).mono ?_
  rintro e w' ⟨rfl, hd⟩
  exact ⟨rfl, hd⟩

end Go.Proofs.YtjjkagjdbjpikaaDoor.PX
