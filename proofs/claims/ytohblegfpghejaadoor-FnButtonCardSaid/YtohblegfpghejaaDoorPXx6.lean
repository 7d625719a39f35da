-- Written by wip/pp.py, a program of this session, out of the translation. Not trusted: Lean checks it.
import Derived.Test.YtohblegfpghejaaDoorPXx0
import Derived.Test.YtohblegfpghejaaDoorPXx4
import Derived.Test.YtohblegfpghejaaDoorPXx5
namespace Go.Proofs.YtohblegfpghejaaDoor.PX
open Go.RowKit Go.Proofs.YtohblegfpghejaaDoor.Or Go.Proofs.YtohblegfpghejaaDoorW.PrintWords Go.Proofs.YtohblegfpghejaaDoorW.PrintLast Go.Proofs.YtohblegfpghejaaDoorW.PrintMore
attribute [local go_sem] max2_int min2_int max_two min_two max_three min_three max_four min_four   -- for this text's walks alone
attribute [local go_sem] Go.Proofs.YtohblegfpghejaaDoor.Ext.wrap64_mod256 Go.Proofs.YtohblegfpghejaaDoor.Ext.wrap64_mod32 Go.Proofs.YtohblegfpghejaaDoor.Ext.i64_mod256 Go.Proofs.YtohblegfpghejaaDoor.Ext.i64_mod32 Go.Proofs.YtohblegfpghejaaDoor.Ext.i64_u8 Go.Proofs.YtohblegfpghejaaDoor.Ext.w64_u8 Go.Proofs.YtohblegfpghejaaDoor.Ext.i64_u32 Go.Proofs.YtohblegfpghejaaDoor.Ext.w64_u32 
set_option linter.unusedVariables false
set_option linter.unusedSimpArgs false

/-! ### spec_MadeButton: function 14 -/
mutual
def spec_MadeButton.j0 : Nat → Bool → Bool → Bool → Bool → Int → Option (Int)
  | 0, _, _, _, _, _ => none
  | k + 1, x1, x2, x3, x4, x11 => (some (([x2, x3, x4, x1] : List Bool) : List Bool)).bind fun y189 => (spec_MadeButton.l0 k x11 y189 (y189.length : Int) 0)
def spec_MadeButton.l0 : Nat → Int → List Bool → Int → Int → Option (Int)
  | 0, _, _, _, _ => none
  | k + 1, x11, x38, x39, x40 => if x40 < x39 then (if 0 ≤ x40 then (if x40 < (x38.length : Int) then (if rdOf false x38 x40 = true then (spec_MadeButton.l0 k (Go.bits .or .u8 x11 (shl .u8 4 x40)) x38 x39 (wrap64 (x40 + 1))) else (spec_MadeButton.l0 k x11 x38 x39 (wrap64 (x40 + 1)))) else (none)) else (none)) else (some x11)
end
def spec_MadeButton.f (k : Nat) (a0 : Int) (a1 : Bool) (a2 : Bool) (a3 : Bool) (a4 : Bool) : Option (Int) := if a0 = 0 then (spec_MadeButton.j0 k a1 a2 a3 a4 3) else (if a0 ≤ 3 then (spec_MadeButton.j0 k a1 a2 a3 a4 ((a0 - 1) % 256)) else (if a0 ≤ 7 then (spec_MadeButton.j0 k a1 a2 a3 a4 ((((64 + a0) % 256) - 4) % 256)) else (if a0 ≤ 11 then (spec_MadeButton.j0 k a1 a2 a3 a4 ((((128 + a0) % 256) - 8) % 256)) else (spec_MadeButton.j0 k a1 a2 a3 a4 255))))
theorem spec_MadeButton.mono_l : ∀ k, (∀ y0 y1 y2 y3 y4, LeO (spec_MadeButton.j0 k y0 y1 y2 y3 y4) (spec_MadeButton.j0 (k + 1) y0 y1 y2 y3 y4)) ∧ (∀ y0 y1 y2 y3, LeO (spec_MadeButton.l0 k y0 y1 y2 y3) (spec_MadeButton.l0 (k + 1) y0 y1 y2 y3))
  | 0 => ⟨fun _ _ _ _ _ r h => by simp [spec_MadeButton.j0] at h, fun _ _ _ _ r h => by simp [spec_MadeButton.l0] at h⟩
  | k + 1 => by
    obtain ⟨ih0, ih1⟩ := spec_MadeButton.mono_l k
    refine ⟨?_, ?_⟩
    · intro y0 y1 y2 y3 y4
      unfold spec_MadeButton.j0
      repeat' first
      | (with_reducible exact ih0 _ _ _ _ _)
      | (with_reducible exact ih1 _ _ _ _)
      | (with_reducible exact LeO.refl _)
      | (with_reducible exact LeO.none _)
      | (with_reducible refine LeO.ite ?_ ?_)
      | (with_reducible refine LeO.bind ?_ (fun _ => ?_))
      | exact ih0 _ _ _ _ _
      | exact ih1 _ _ _ _
      | exact LeO.none _
      | refine LeO.ite ?_ ?_
      | refine LeO.bind ?_ (fun _ => ?_)
    · intro y0 y1 y2 y3
      unfold spec_MadeButton.l0
      repeat' first
      | (with_reducible exact ih0 _ _ _ _ _)
      | (with_reducible exact ih1 _ _ _ _)
      | (with_reducible exact LeO.refl _)
      | (with_reducible exact LeO.none _)
      | (with_reducible refine LeO.ite ?_ ?_)
      | (with_reducible refine LeO.bind ?_ (fun _ => ?_))
      | exact ih0 _ _ _ _ _
      | exact ih1 _ _ _ _
      | exact LeO.none _
      | refine LeO.ite ?_ ?_
      | refine LeO.bind ?_ (fun _ => ?_)
theorem spec_MadeButton.mono : ∀ a0 a1 a2 a3 a4 k, LeO (spec_MadeButton.f k a0 a1 a2 a3 a4) (spec_MadeButton.f (k + 1) a0 a1 a2 a3 a4) := by
  intro a0 a1 a2 a3 a4 k
  obtain ⟨ih0, ih1⟩ := spec_MadeButton.mono_l k
  unfold spec_MadeButton.f
  repeat' first
      | (with_reducible exact ih0 _ _ _ _ _)
      | (with_reducible exact ih1 _ _ _ _)
      | (with_reducible exact LeO.refl _)
      | (with_reducible exact LeO.none _)
      | (with_reducible refine LeO.ite ?_ ?_)
      | (with_reducible refine LeO.bind ?_ (fun _ => ?_))
      | exact ih0 _ _ _ _ _
      | exact ih1 _ _ _ _
      | exact LeO.none _
      | refine LeO.ite ?_ ?_
      | refine LeO.bind ?_ (fun _ => ?_)
set_option maxHeartbeats 8000000 in
set_option maxRecDepth 100000 in
theorem spec_MadeButton.calls (k : Nat) (a0 : Int) (a1 : Bool) (a2 : Bool) (a3 : Bool) (a4 : Bool) (r : Int) (w : World) (h : spec_MadeButton.f k a0 a1 a2 a3 a4 = some r) :
    Calls Tryd.prog 14 #[.int .u8 a0, .bool a1, .bool a2, .bool a3, .bool a4] w fun e w' => e = .returned (.int .u8 r) ∧ Below w.heap.size w w' := by
  have HB := Aside0.mk (Below.refl w.heap.size w)
  have H : (if a0 = 0 then (spec_MadeButton.j0 k a1 a2 a3 a4 3) else (if a0 ≤ 3 then (spec_MadeButton.j0 k a1 a2 a3 a4 ((a0 - 1) % 256)) else (if a0 ≤ 7 then (spec_MadeButton.j0 k a1 a2 a3 a4 ((((64 + a0) % 256) - 4) % 256)) else (if a0 ≤ 11 then (spec_MadeButton.j0 k a1 a2 a3 a4 ((((128 + a0) % 256) - 8) % 256)) else (spec_MadeButton.j0 k a1 a2 a3 a4 255))))) = some r := h
  clear h
  have HC6 := Aside0.mk H
  clear H
  go_enter Tryd.func14, Tryd.ntmps14
  go_upto_block 0 with (fail)
  go_cut [11] (fun v11 wc => ∃ (kq : Nat) (x11_5 : Int), v11 = .int .u8 x11_5 ∧ Aside0 (spec_MadeButton.j0 kq a1 a2 a3 a4 x11_5 = some r) ∧ Aside0 (kq ≤ k) ∧ Aside0 (Below w.heap.size w wc))
  case first =>
    have H := HC6.out
    clear HC6
    by_cases c7 : a0 = 0
    · rw [if_pos c7] at H
      have c7b0 : (a0 == 0) = true := beq_iff_eq.mpr c7
      have c7b1 : (a0 != 0) = false := bne_eq_false_iff_eq.mpr c7
      clear c7
      (first | rw [c7b0] | (simp only [i64_w, i32_w]; rw [c7b0]) | skip)
      have H' := Aside0.mk H
      clear H
      go_wp2
      go_meet
      case rel => exact ⟨_, (3), (by first | rfl | (simp; done) | (simp [*]; done)), H', ⟨by first | omega | exact Nat.le_refl _⟩, ⟨by repeat (first | (with_reducible first | exact HB.out | apply below_alloc | apply Go.Proofs.YtohblegfpghejaaDoor.Ext.below_bytes | apply pw_below_drewN | apply below_drew1) | exact HB.out)⟩⟩
    · rw [if_neg c7] at H
      have c7b0 : (a0 == 0) = false := beq_eq_false_iff_ne.mpr c7
      have c7b1 : (a0 != 0) = true := bne_iff_ne.mpr c7
      (first | rw [c7b0] | (simp only [i64_w, i32_w]; rw [c7b0]) | skip)
      by_cases c8 : a0 ≤ 3
      · rw [if_pos c8] at H
        have c8b0 : decide (a0 ≤ 3) = true := decide_eq_true c8
        clear c8
        have H' := Aside0.mk H
        clear H
        go_wp2
        go_meet
        case rel => exact ⟨_, ((a0 - 1) % 256), (by first | rfl | (simp; done) | (simp [*]; done)), H', ⟨by first | omega | exact Nat.le_refl _⟩, ⟨by repeat (first | (with_reducible first | exact HB.out | apply below_alloc | apply Go.Proofs.YtohblegfpghejaaDoor.Ext.below_bytes | apply pw_below_drewN | apply below_drew1) | exact HB.out)⟩⟩
      · rw [if_neg c8] at H
        have c8b0 : decide (a0 ≤ 3) = false := decide_eq_false c8
        clear c8
        by_cases c9 : a0 ≤ 7
        · rw [if_pos c9] at H
          have c9b0 : decide (a0 ≤ 7) = true := decide_eq_true c9
          clear c9
          have H' := Aside0.mk H
          clear H
          go_wp2
          go_meet
          case rel => exact ⟨_, ((((64 + a0) % 256) - 4) % 256), (by first | rfl | (simp; done) | (simp [*]; done)), H', ⟨by first | omega | exact Nat.le_refl _⟩, ⟨by repeat (first | (with_reducible first | exact HB.out | apply below_alloc | apply Go.Proofs.YtohblegfpghejaaDoor.Ext.below_bytes | apply pw_below_drewN | apply below_drew1) | exact HB.out)⟩⟩
        · rw [if_neg c9] at H
          have c9b0 : decide (a0 ≤ 7) = false := decide_eq_false c9
          clear c9
          by_cases c10 : a0 ≤ 11
          · rw [if_pos c10] at H
            have c10b0 : decide (a0 ≤ 11) = true := decide_eq_true c10
            clear c10
            have H' := Aside0.mk H
            clear H
            go_wp2
            go_meet
            case rel => exact ⟨_, ((((128 + a0) % 256) - 8) % 256), (by first | rfl | (simp; done) | (simp [*]; done)), H', ⟨by first | omega | exact Nat.le_refl _⟩, ⟨by repeat (first | (with_reducible first | exact HB.out | apply below_alloc | apply Go.Proofs.YtohblegfpghejaaDoor.Ext.below_bytes | apply pw_below_drewN | apply below_drew1) | exact HB.out)⟩⟩
          · rw [if_neg c10] at H
            have c10b0 : decide (a0 ≤ 11) = false := decide_eq_false c10
            clear c10
            have H' := Aside0.mk H
            clear H
            go_wp2
            go_meet
            case rel => exact ⟨_, (255), (by first | rfl | (simp; done) | (simp [*]; done)), H', ⟨by first | omega | exact Nat.le_refl _⟩, ⟨by repeat (first | (with_reducible first | exact HB.out | apply below_alloc | apply Go.Proofs.YtohblegfpghejaaDoor.Ext.below_bytes | apply pw_below_drewN | apply below_drew1) | exact HB.out)⟩⟩
  case rest =>
    clear HC6
    try clear c1
    try clear p2
    try clear c7
    try clear c7b0
    try clear c7b1
    try clear c8
    try clear c8b0
    try clear c9
    try clear c9b0
    try clear c10
    try clear c10b0
    obtain ⟨kq, x11_5, rfl, HA, HJ5, HB⟩ := hcut
    cases kq with
    | zero => exact absurd HA.out (by simp [spec_MadeButton.j0])
    | succ kj5 =>
      have H := HA.out
      clear HA
      simp only [spec_MadeButton.j0] at H
      obtain ⟨y189, hy189⟩ : ∃ y_ : List Bool, y_ = (([a2, a3, a4, a1] : List Bool)) := ⟨_, rfl⟩
      replace H : (spec_MadeButton.l0 kj5 x11_5 y189 (y189.length : Int) 0) = some r := by first | (rw [hy189]; with_reducible exact H) | (have H2_ := (Option.bind_some _ _).symm.trans H; rw [hy189]; with_reducible exact H2_) | (have H2_ := (Option.bind_some _ _).symm.trans H; with_reducible exact H2_) | with_reducible exact H | (rw [hy189]; exact H) | exact H
      have Ny189 := Aside0.mk hy189
      clear hy189
      have H' := Aside0.mk H
      clear H
      go_wp2_with (first | ((with_reducible refine gate_dst (N := 38) rfl ?_); refine Kd.R_lit Kd.bool _ 4 ?hg (N := 38) ?hd (xs := ([a2, a3, a4, a1] : List Bool)) (inner := [.bool a2, .bool a3, .bool a4, .bool a1]) (ok := fun _ => True) (okp := fun _ => True) ?hr ?hp (fun _ hk => hk) trivial (Below.refl _ _) (Nat.le_refl _) (by simp) ?_; (case hd => rfl); (case hg => rfl); (case hr => first | (go_simp; done) | (go_simp; rfl)); (case hp => exact (Reps.one (show Kd.M Kd.bool _ _ _ a2 [.bool a2] from rfl) (Reps.one (show Kd.M Kd.bool _ _ _ a3 [.bool a3] from rfl) (Reps.one (show Kd.M Kd.bool _ _ _ a4 [.bool a4] from rfl) (Reps.one (show Kd.M Kd.bool _ _ _ a1 [.bool a1] from rfl) (Reps.none _ _)))))); intro v190 w11 ho12 hb hg_ hnew_; clear hg_ hnew_; (first | rw [← Ny189.out] at ho12 | (simp only [Int.reduceToNat] at ho12; rw [← Ny189.out] at ho12)); have n0_ := Aside0.mk (Kd.R_lower ho12 (below_size (by repeat (first | (with_reducible first | exact HB.out | apply below_alloc | apply Go.Proofs.YtohblegfpghejaaDoor.Ext.below_bytes | apply pw_below_drewN | apply below_drew1) | exact HB.out)))); have n1_ := Aside0.mk (below_step (by repeat (first | (with_reducible first | exact HB.out | apply below_alloc | apply Go.Proofs.YtohblegfpghejaaDoor.Ext.below_bytes | apply pw_below_drewN | apply below_drew1) | exact HB.out)) hb); clear HB; have HO191 := n0_; have HB := n1_; clear n0_ n1_; clear hb ho12; obtain ⟨Ao13, co13, eo13⟩ := Kd.R_slice HO191.out; subst eo13))
      go_loopg [11, 40] kj5 (fun kq v11 v40 w' => ∃ (x11_2 : Int) (x40_2 : Int), v11 = .int .u8 x11_2 ∧ v40 = .int .i64 x40_2 ∧ Aside0 (spec_MadeButton.l0 kq x11_2 y189 (y189.length : Int) x40_2 = some r) ∧ Aside0 (kq ≤ kj5) ∧ Aside0 (Kd.R Kd.bool 4 w' w.heap.size (fun _ => True) (.slice Ao13 y189.length co13) y189) ∧ Aside0 (Below w.heap.size w w'))
      case atStart => exact ⟨(x11_5), (0), (by first | rfl | (simp; done) | (simp [*]; done)), (by first | rfl | (simp; done) | (simp [*]; done)), H', ⟨Nat.le_refl _⟩, ⟨by (with_reducible repeat (first | apply Kd.R_alloc | apply Go.Proofs.YtohblegfpghejaaDoor.Ext.R_bytes | apply Kd.R_drewN | apply Kd.R_drew)); exact HO191.out⟩, ⟨by repeat (first | (with_reducible first | exact HB.out | apply below_alloc | apply Go.Proofs.YtohblegfpghejaaDoor.Ext.below_bytes | apply pw_below_drewN | apply below_drew1) | exact HB.out)⟩⟩
      case round =>
        clear H'
        try clear c1
        try clear p2
        try clear c7
        try clear c7b0
        try clear c7b1
        try clear c8
        try clear c8b0
        try clear c9
        try clear c9b0
        try clear c10
        try clear c10b0
        try clear p2
        obtain ⟨x11_2, x40_2, rfl, rfl, HA, HK2, HO_38, HB⟩ := hrel
        cases gk with
        | zero => exact absurd HA.out (by simp [spec_MadeButton.l0])
        | succ k2 =>
          have H := HA.out
          clear HA
          simp only [spec_MadeButton.l0] at H
          by_cases c14 : x40_2 < (y189.length : Int)
          · rw [if_pos c14] at H
            have c14b0 : decide (x40_2 < (y189.length : Int)) = true := decide_eq_true c14
            clear c14
            by_cases c15 : 0 ≤ x40_2
            · rw [if_pos c15] at H
              have c15b0 : decide (0 ≤ x40_2) = true := decide_eq_true c15
              clear c15
              by_cases c16 : x40_2 < (y189.length : Int)
              · rw [if_pos c16] at H
                have c16b0 : decide (x40_2 < (y189.length : Int)) = true := decide_eq_true c16
                clear c16
                obtain ⟨bq17, hbq17⟩ : ∃ b_ : Bool, b_ = (rdOf false y189 x40_2) := ⟨_, rfl⟩
                replace H : (if bq17 = true then (spec_MadeButton.l0 k2 (Go.bits .or .u8 x11_2 (shl .u8 4 x40_2)) y189 (y189.length : Int) (wrap64 (x40_2 + 1))) else (spec_MadeButton.l0 k2 x11_2 y189 (y189.length : Int) (wrap64 (x40_2 + 1)))) = some r := by rw [← hbq17] at H; exact H
                have Nbq17 := Aside0.mk hbq17
                clear hbq17
                by_cases c18 : bq17 = true
                · subst c18
                  have H1 : (spec_MadeButton.l0 k2 (Go.bits .or .u8 x11_2 (shl .u8 4 x40_2)) y189 (y189.length : Int) (wrap64 (x40_2 + 1))) = some r := by rw [if_pos rfl] at H; exact H
                  clear H
                  have H := H1
                  clear H1
                  have c19b0 := eq_true (of_decide_eq_true (by first | (with_reducible assumption) | assumption) : 0 ≤ x40_2)
                  obtain ⟨ji20, hji20⟩ : ∃ j_ : Int, (shl .u8 4 x40_2) = j_ := ⟨_, rfl⟩
                  replace H : (spec_MadeButton.l0 k2 (Go.bits .or .u8 x11_2 (ji20)) y189 (y189.length : Int) (wrap64 (x40_2 + 1))) = some r := by first | (rw [hji20] at H; exact H) | (simp only [hji20] at H ⊢; exact H)
                  have hji20_ : (IntKind.u8.wrap (4 * 2 ^ min x40_2.toNat 8)) = ji20 := hji20
                  have hji20z : x40_2 ≤ 8 → (IntKind.u8.wrap (4 * 2 ^ x40_2.toNat)) = ji20 := shl_small hji20
                  have H' := Aside0.mk H
                  clear H
                  have p192 : 0 ≤ (x40_2 : Int) := of_decide_eq_true (by first | (with_reducible assumption) | assumption)
                  have q192 : x40_2 < (y189.length : Int) := of_decide_eq_true (by first | (with_reducible assumption) | assumption)
                  obtain ⟨ad192, e192, hx192_0⟩ := Kd.at_bool (Kd.R_reads' HO_38.out).2.2 x40_2 p192 q192
                  (try rw [← Nbq17.out] at hx192_0)
                  cases e192
                  replace p192 := eq_true p192
                  replace q192 := eq_true q192
                  go_wp2
                  go_roundg k2
                  case measure => have := HJ5.out; have := HK2.out; omega
                  case rel => exact ⟨(Go.bits .or .u8 x11_2 (ji20)), (wrap64 (x40_2 + 1)), (by first | rfl | (simp; done) | (simp only [← hji20] <;> (first | rfl | simp)) | (simp [*]; done)), (by first | rfl | (simp; done) | (simp [*]; done)), H', ⟨by have := HJ5.out; have := HK2.out; omega⟩, ⟨by (with_reducible repeat (first | apply Kd.R_alloc | apply Go.Proofs.YtohblegfpghejaaDoor.Ext.R_bytes | apply Kd.R_drewN | apply Kd.R_drew)); exact HO_38.out⟩, ⟨by repeat (first | (with_reducible first | exact HB.out | apply below_alloc | apply Go.Proofs.YtohblegfpghejaaDoor.Ext.below_bytes | apply pw_below_drewN | apply below_drew1) | exact HB.out)⟩⟩
                · replace c18 := Bool.eq_false_iff.mpr c18
                  subst c18
                  have H1 : (spec_MadeButton.l0 k2 x11_2 y189 (y189.length : Int) (wrap64 (x40_2 + 1))) = some r := by rw [if_neg (show ¬ (false = true) by decide)] at H; exact H
                  clear H
                  have H := H1
                  clear H1
                  have H' := Aside0.mk H
                  clear H
                  have p192 : 0 ≤ (x40_2 : Int) := of_decide_eq_true (by first | (with_reducible assumption) | assumption)
                  have q192 : x40_2 < (y189.length : Int) := of_decide_eq_true (by first | (with_reducible assumption) | assumption)
                  obtain ⟨ad192, e192, hx192_0⟩ := Kd.at_bool (Kd.R_reads' HO_38.out).2.2 x40_2 p192 q192
                  (try rw [← Nbq17.out] at hx192_0)
                  cases e192
                  replace p192 := eq_true p192
                  replace q192 := eq_true q192
                  go_wp2
                  go_roundg k2
                  case measure => have := HJ5.out; have := HK2.out; omega
                  case rel => exact ⟨(x11_2), (wrap64 (x40_2 + 1)), (by first | rfl | (simp; done) | (simp [*]; done)), (by first | rfl | (simp; done) | (simp [*]; done)), H', ⟨by have := HJ5.out; have := HK2.out; omega⟩, ⟨by (with_reducible repeat (first | apply Kd.R_alloc | apply Go.Proofs.YtohblegfpghejaaDoor.Ext.R_bytes | apply Kd.R_drewN | apply Kd.R_drew)); exact HO_38.out⟩, ⟨by repeat (first | (with_reducible first | exact HB.out | apply below_alloc | apply Go.Proofs.YtohblegfpghejaaDoor.Ext.below_bytes | apply pw_below_drewN | apply below_drew1) | exact HB.out)⟩⟩
              · rw [if_neg c16] at H
                exact absurd H (by simp)
            · rw [if_neg c15] at H
              exact absurd H (by simp)
          · rw [if_neg c14] at H
            have c14b0 : decide (x40_2 < (y189.length : Int)) = false := decide_eq_false c14
            clear c14
            obtain rfl := Option.some.inj H
            go_wp2
            go_ret
            exact ⟨by first | rfl | (simp [errW_none, errW_some] <;> rfl) | (simp [*, errW_none, errW_some] <;> rfl), by repeat (first | (with_reducible first | exact HB.out | apply below_alloc | apply Go.Proofs.YtohblegfpghejaaDoor.Ext.below_bytes | apply pw_below_drewN | apply below_drew1) | exact HB.out)⟩

/-! ### laws_FnButton: function 4 -/
def laws_FnButton.f (k : Nat) (a0 : Int) (a1 : Bool) (a2 : Bool) (a3 : Bool) (a4 : Bool) : Option (Bool) := (laws_makeAwake.f k).bind fun t193 => (if t193 = true then ((impl_ButtonOf.f k a0 a1 a2 a3 a4).bind fun t194 => ((spec_MadeButton.f k a0 a1 a2 a3 a4).bind fun t195 => (some (t194 == t195)))) else (some false))
theorem laws_FnButton.mono : ∀ a0 a1 a2 a3 a4 k, LeO (laws_FnButton.f k a0 a1 a2 a3 a4) (laws_FnButton.f (k + 1) a0 a1 a2 a3 a4) := by
  intro a0 a1 a2 a3 a4 k
  unfold laws_FnButton.f
  repeat' first
      | (with_reducible exact impl_ButtonOf.mono _ _ _ _ _ _)
      | (with_reducible exact laws_makeAwake.mono _)
      | (with_reducible exact spec_MadeButton.mono _ _ _ _ _ _)
      | (with_reducible exact LeO.refl _)
      | (with_reducible exact LeO.none _)
      | (with_reducible refine LeO.ite ?_ ?_)
      | (with_reducible refine LeO.bind ?_ (fun _ => ?_))
      | exact impl_ButtonOf.mono _ _ _ _ _ _
      | exact laws_makeAwake.mono _
      | exact spec_MadeButton.mono _ _ _ _ _ _
      | exact LeO.none _
      | refine LeO.ite ?_ ?_
      | refine LeO.bind ?_ (fun _ => ?_)
set_option maxHeartbeats 8000000 in
set_option maxRecDepth 100000 in
theorem laws_FnButton.calls (k : Nat) (a0 : Int) (a1 : Bool) (a2 : Bool) (a3 : Bool) (a4 : Bool) (r : Bool) (w : World) (hLD : Laid w) (h : laws_FnButton.f k a0 a1 a2 a3 a4 = some r) :
    Calls Tryd.prog 4 #[.int .u8 a0, .bool a1, .bool a2, .bool a3, .bool a4] w fun e w' => e = .returned (.bool r) ∧ Below w.heap.size w w' := by
  have HLD := Aside0.mk hLD
  clear hLD
  have HB := Aside0.mk (Below.refl w.heap.size w)
  have H : ((laws_makeAwake.f k).bind fun t193 => (if t193 = true then ((impl_ButtonOf.f k a0 a1 a2 a3 a4).bind fun t194 => ((spec_MadeButton.f k a0 a1 a2 a3 a4).bind fun t195 => (some (t194 == t195)))) else (some false))) = some r := h
  clear h
  replace H := Option.bind_eq_some_iff.mp H
  obtain ⟨t193, A60, H⟩ := H
  replace H : (if t193 = true then ((impl_ButtonOf.f k a0 a1 a2 a3 a4).bind fun t194 => ((spec_MadeButton.f k a0 a1 a2 a3 a4).bind fun t195 => (some (t194 == t195)))) else (some false)) = some r := H
  have A6 := Aside0.mk A60
  clear A60
  by_cases c7 : t193 = true
  · subst c7
    have H1 : ((impl_ButtonOf.f k a0 a1 a2 a3 a4).bind fun t194 => ((spec_MadeButton.f k a0 a1 a2 a3 a4).bind fun t195 => (some (t194 == t195)))) = some r := by rw [if_pos rfl] at H; exact H
    clear H
    have H := H1
    clear H1
    replace H := Option.bind_eq_some_iff.mp H
    obtain ⟨t194, A80, H⟩ := H
    replace H : ((spec_MadeButton.f k a0 a1 a2 a3 a4).bind fun t195 => (some (t194 == t195))) = some r := H
    have A8 := Aside0.mk A80
    clear A80
    replace H := Option.bind_eq_some_iff.mp H
    obtain ⟨t195, A90, H⟩ := H
    replace H : (some (t194 == t195)) = some r := H
    have A9 := Aside0.mk A90
    clear A90
    obtain rfl := Option.some.inj H
    go_enter Tryd.func4, Tryd.ntmps4
    go_wp2_with (first | ((with_reducible refine gate_callee (f := 11) rfl ?_); refine goesL_ (some 11) rfl rfl Tryd.func11 (by kernel_rfl) rfl #[] rfl (by (try simp only [List.map_toArray, List.map_cons, List.map_nil]); first | done | rfl | (simp only [List.length_drop, List.length_take]; rfl) | (simp [Act.eval, *]; done)) ?_; (with_reducible refine (laws_makeAwake.calls k  true _ ?side1 A6.out).mono ?_); (case side1 => exact HLD.out.below (by repeat (first | (with_reducible first | exact HB.out | apply below_alloc | apply Go.Proofs.YtohblegfpghejaaDoor.Ext.below_bytes | apply pw_below_drewN | apply below_drew1) | exact HB.out))); rintro e w10 ⟨rfl, hb⟩; refine ⟨_, rfl, ?_⟩; have n0_ := Aside0.mk (below_step (by repeat (first | (with_reducible first | exact HB.out | apply below_alloc | apply Go.Proofs.YtohblegfpghejaaDoor.Ext.below_bytes | apply pw_below_drewN | apply below_drew1) | exact HB.out)) hb); clear HB; have HB := n0_; clear n0_; (try clear hb); (try clear hb2); (try clear hk); (try clear hi)) | (go_at_call 13; (with_reducible refine (impl_ButtonOf.calls k a0 a1 a2 a3 a4 t194 _ A8.out).mono ?_); rintro e w' ⟨rfl, ⟨nd, rfl⟩⟩) | (go_at_call 14; (with_reducible refine (spec_MadeButton.calls k a0 a1 a2 a3 a4 t195 _ A9.out).mono ?_); rintro e w11 ⟨rfl, hb⟩; have n0_ := Aside0.mk (below_step (by repeat (first | (with_reducible first | exact HB.out | apply below_alloc | apply Go.Proofs.YtohblegfpghejaaDoor.Ext.below_bytes | apply pw_below_drewN | apply below_drew1) | exact HB.out)) hb); clear HB; have HB := n0_; clear n0_; (try clear hb); (try clear hb2); (try clear hk); (try clear hi)))
    go_ret
    exact ⟨by first | rfl | (simp [errW_none, errW_some] <;> rfl) | (simp [*, errW_none, errW_some] <;> rfl), by repeat (first | (with_reducible first | exact HB.out | apply below_alloc | apply Go.Proofs.YtohblegfpghejaaDoor.Ext.below_bytes | apply pw_below_drewN | apply below_drew1) | exact HB.out)⟩
  · replace c7 := Bool.eq_false_iff.mpr c7
    subst c7
    have H1 : (some false) = some r := by rw [if_neg (show ¬ (false = true) by decide)] at H; exact H
    clear H
    have H := H1
    clear H1
    obtain rfl := Option.some.inj H
    go_enter Tryd.func4, Tryd.ntmps4
    go_wp2_with (first | ((with_reducible refine gate_callee (f := 11) rfl ?_); refine goesL_ (some 11) rfl rfl Tryd.func11 (by kernel_rfl) rfl #[] rfl (by (try simp only [List.map_toArray, List.map_cons, List.map_nil]); first | done | rfl | (simp only [List.length_drop, List.length_take]; rfl) | (simp [Act.eval, *]; done)) ?_; (with_reducible refine (laws_makeAwake.calls k  false _ ?side1 A6.out).mono ?_); (case side1 => exact HLD.out.below (by repeat (first | (with_reducible first | exact HB.out | apply below_alloc | apply Go.Proofs.YtohblegfpghejaaDoor.Ext.below_bytes | apply pw_below_drewN | apply below_drew1) | exact HB.out))); rintro e w12 ⟨rfl, hb⟩; refine ⟨_, rfl, ?_⟩; have n0_ := Aside0.mk (below_step (by repeat (first | (with_reducible first | exact HB.out | apply below_alloc | apply Go.Proofs.YtohblegfpghejaaDoor.Ext.below_bytes | apply pw_below_drewN | apply below_drew1) | exact HB.out)) hb); clear HB; have HB := n0_; clear n0_; (try clear hb); (try clear hb2); (try clear hk); (try clear hi)))
    go_ret
    exact ⟨by first | rfl | (simp [errW_none, errW_some] <;> rfl) | (simp [*, errW_none, errW_some] <;> rfl), by repeat (first | (with_reducible first | exact HB.out | apply below_alloc | apply Go.Proofs.YtohblegfpghejaaDoor.Ext.below_bytes | apply pw_below_drewN | apply below_drew1) | exact HB.out)⟩

/-- THE ONE PURE STATEMENT of laws_FnButton: yours. -/
def laws_FnButton.Pure : Prop := ∀ (a0 : Int) (a1 : Bool) (a2 : Bool) (a3 : Bool) (a4 : Bool), (Lit.int .u8 a0).wf = true → ∃ k, laws_FnButton.f k a0 a1 a2 a3 a4 = some true
theorem laws_FnButton.walk (P : laws_FnButton.Pure) (a0 : Int) (a1 : Bool) (a2 : Bool) (a3 : Bool) (a4 : Bool) (w : World) (hLD : Laid w) (w0 : (Lit.int .u8 a0).wf = true) :
    Calls Tryd.prog 4 #[.int .u8 a0, .bool a1, .bool a2, .bool a3, .bool a4] w fun e w' => e = .returned (.bool true) ∧ Below w.heap.size w w' := by
  obtain ⟨k, h⟩ := P a0 a1 a2 a3 a4 w0
  refine (laws_FnButton.calls k a0 a1 a2 a3 a4 true w hLD h).mono ?_
  rintro e w' ⟨rfl, hd⟩
  exact ⟨rfl, hd⟩

-- NOT PRINTED: function 5 (laws_FnButtonBits)

/-! ### laws_zzFits11: function 15 -/
def laws_zzFits11.f (a0_0 : Int) (a0_1 : Int) (a0_2 : Int) (a0_3 : Int) (a0_4 : Int) (a0_5 : Int) (a0_6 : Int) (a0_7 : Int) (a0_8 : Int) (a0_9 : Int) (a0_10 : Int) (a0_11 : ByteArray) (a0_12 : Int) (a0_13 : Int) (a0_14 : Bool) (a0_15 : Int) (a0_16 : Int) (a0_17 : Int) (a0_18 : Int) (a0_19 : Int) (a0_20 : Int) (a0_21 : Int) (a0_22 : Int) (a0_23 : Int) (a0_24 : Bool) (a0_25 : Bool) (a0_26 : Int) (a0_27 : Int) (a0_28 : Int) (a0_29 : Bool) : Option (Bool) := if (a0_11.size : Int) > 2147483647 then (some false) else (some true)
set_option maxHeartbeats 8000000 in
set_option maxRecDepth 100000 in
theorem laws_zzFits11.calls (a0_0 : Int) (a0_1 : Int) (a0_2 : Int) (a0_3 : Int) (a0_4 : Int) (a0_5 : Int) (a0_6 : Int) (a0_7 : Int) (a0_8 : Int) (a0_9 : Int) (a0_10 : Int) (a0_11 : ByteArray) (a0_12 : Int) (a0_13 : Int) (a0_14 : Bool) (a0_15 : Int) (a0_16 : Int) (a0_17 : Int) (a0_18 : Int) (a0_19 : Int) (a0_20 : Int) (a0_21 : Int) (a0_22 : Int) (a0_23 : Int) (a0_24 : Bool) (a0_25 : Bool) (a0_26 : Int) (a0_27 : Int) (a0_28 : Int) (a0_29 : Bool) (r : Bool) (w : World) (h : laws_zzFits11.f a0_0 a0_1 a0_2 a0_3 a0_4 a0_5 a0_6 a0_7 a0_8 a0_9 a0_10 a0_11 a0_12 a0_13 a0_14 a0_15 a0_16 a0_17 a0_18 a0_19 a0_20 a0_21 a0_22 a0_23 a0_24 a0_25 a0_26 a0_27 a0_28 a0_29 = some r) :
    Calls Tryd.prog 15 #[.agg #[.int .u8 a0_0, .int .u8 a0_1, .int .u8 a0_2, .int .i64 a0_3, .int .i64 a0_4, .int .i64 a0_5, .int .i64 a0_6, .int .i64 a0_7, .int .i64 a0_8, .int .u8 a0_9, .int .u8 a0_10, .string a0_11, .int .i64 a0_12, .int .i64 a0_13, .bool a0_14, .int .i64 a0_15, .int .i64 a0_16, .int .i64 a0_17, .int .i64 a0_18, .int .i64 a0_19, .int .i64 a0_20, .int .i64 a0_21, .int .i64 a0_22, .int .i64 a0_23, .bool a0_24, .bool a0_25, .int .i64 a0_26, .int .i64 a0_27, .int .u8 a0_28, .bool a0_29]] w fun e w' => e = .returned (.bool r) ∧ Below w.heap.size w w' := by
  have hu32 := Tryd.underlying32
  have HB := Aside0.mk (Below.refl w.heap.size w)
  have H : (if (a0_11.size : Int) > 2147483647 then (some false) else (some true)) = some r := h
  clear h
  by_cases c2 : (a0_11.size : Int) > 2147483647
  · rw [if_pos c2] at H
    have c2b0 : decide (2147483647 < (a0_11.size : Int)) = true := decide_eq_true c2
    have c2b1 : decide (2147483647 < a0_11.size) = true := decide_eq_true (by omega)
    clear c2
    obtain rfl := Option.some.inj H
    go_enter Tryd.func15, Tryd.ntmps15
    go_wp2_with (first | ((with_reducible refine gate_dst (N := 1) rfl ?_); refine box_event ?hg (N := 1) ?hd (cs := #[.int .u8 a0_0, .int .u8 a0_1, .int .u8 a0_2, .int .i64 a0_3, .int .i64 a0_4, .int .i64 a0_5, .int .i64 a0_6, .int .i64 a0_7, .int .i64 a0_8, .int .u8 a0_9, .int .u8 a0_10, .string a0_11, .int .i64 a0_12, .int .i64 a0_13, .bool a0_14, .int .i64 a0_15, .int .i64 a0_16, .int .i64 a0_17, .int .i64 a0_18, .int .i64 a0_19, .int .i64 a0_20, .int .i64 a0_21, .int .i64 a0_22, .int .i64 a0_23, .bool a0_24, .bool a0_25, .int .i64 a0_26, .int .i64 a0_27, .int .u8 a0_28, .bool a0_29]) (t := 32) ?hr ?_; (case hd => rfl); (case hg => rfl); (case hr => first | (go_simp; done) | (go_simp; rfl)); intro gb198 hg w3 hbox hb; have n0_ := Aside0.mk (below_step (by repeat (first | (with_reducible first | exact HB.out | apply below_alloc | apply Go.Proofs.YtohblegfpghejaaDoor.Ext.below_bytes | apply pw_below_drewN | apply below_drew1) | exact HB.out)) hb); have n1_ := Aside0.mk (hbox); have n2_ := Aside0.mk ((by rw [hg]; exact (below_size (by repeat (first | (with_reducible first | exact HB.out | apply below_alloc | apply Go.Proofs.YtohblegfpghejaaDoor.Ext.below_bytes | apply pw_below_drewN | apply below_drew1) | exact HB.out))) : w.heap.size ≤ gb198)); have n3_ := Aside0.mk ((by rw [hg]; exact (below_size (by repeat (first | (with_reducible first | exact HB.out | apply below_alloc | apply Go.Proofs.YtohblegfpghejaaDoor.Ext.below_bytes | apply pw_below_drewN | apply below_drew1) | exact HB.out))) : w.heap.size ≤ gb198)); clear HB; have HB := n0_; have BK198 := n1_; have GW198 := n2_; have GE198 := n3_; clear n0_ n1_ n2_ n3_; clear hb hbox hg; have hcz4_0 : w3.cell? ⟨gb198, 0, none⟩ = some (.int .u8 a0_0) := (blk_cell BK198.out 0).trans rfl; have hcz4_1 : w3.cell? ⟨gb198, 1, none⟩ = some (.int .u8 a0_1) := (blk_cell BK198.out 1).trans rfl; have hcz4_2 : w3.cell? ⟨gb198, 2, none⟩ = some (.int .u8 a0_2) := (blk_cell BK198.out 2).trans rfl; have hcz4_3 : w3.cell? ⟨gb198, 3, none⟩ = some (.int .i64 a0_3) := (blk_cell BK198.out 3).trans rfl; have hcz4_4 : w3.cell? ⟨gb198, 4, none⟩ = some (.int .i64 a0_4) := (blk_cell BK198.out 4).trans rfl; have hcz4_5 : w3.cell? ⟨gb198, 5, none⟩ = some (.int .i64 a0_5) := (blk_cell BK198.out 5).trans rfl; have hcz4_6 : w3.cell? ⟨gb198, 6, none⟩ = some (.int .i64 a0_6) := (blk_cell BK198.out 6).trans rfl; have hcz4_7 : w3.cell? ⟨gb198, 7, none⟩ = some (.int .i64 a0_7) := (blk_cell BK198.out 7).trans rfl; have hcz4_8 : w3.cell? ⟨gb198, 8, none⟩ = some (.int .i64 a0_8) := (blk_cell BK198.out 8).trans rfl; have hcz4_9 : w3.cell? ⟨gb198, 9, none⟩ = some (.int .u8 a0_9) := (blk_cell BK198.out 9).trans rfl; have hcz4_10 : w3.cell? ⟨gb198, 10, none⟩ = some (.int .u8 a0_10) := (blk_cell BK198.out 10).trans rfl; have hcz4_11 : w3.cell? ⟨gb198, 11, none⟩ = some (.string a0_11) := (blk_cell BK198.out 11).trans rfl; have hcz4_12 : w3.cell? ⟨gb198, 12, none⟩ = some (.int .i64 a0_12) := (blk_cell BK198.out 12).trans rfl; have hcz4_13 : w3.cell? ⟨gb198, 13, none⟩ = some (.int .i64 a0_13) := (blk_cell BK198.out 13).trans rfl; have hcz4_14 : w3.cell? ⟨gb198, 14, none⟩ = some (.bool a0_14) := (blk_cell BK198.out 14).trans rfl; have hcz4_15 : w3.cell? ⟨gb198, 15, none⟩ = some (.int .i64 a0_15) := (blk_cell BK198.out 15).trans rfl; have hcz4_16 : w3.cell? ⟨gb198, 16, none⟩ = some (.int .i64 a0_16) := (blk_cell BK198.out 16).trans rfl; have hcz4_17 : w3.cell? ⟨gb198, 17, none⟩ = some (.int .i64 a0_17) := (blk_cell BK198.out 17).trans rfl; have hcz4_18 : w3.cell? ⟨gb198, 18, none⟩ = some (.int .i64 a0_18) := (blk_cell BK198.out 18).trans rfl; have hcz4_19 : w3.cell? ⟨gb198, 19, none⟩ = some (.int .i64 a0_19) := (blk_cell BK198.out 19).trans rfl; have hcz4_20 : w3.cell? ⟨gb198, 20, none⟩ = some (.int .i64 a0_20) := (blk_cell BK198.out 20).trans rfl; have hcz4_21 : w3.cell? ⟨gb198, 21, none⟩ = some (.int .i64 a0_21) := (blk_cell BK198.out 21).trans rfl; have hcz4_22 : w3.cell? ⟨gb198, 22, none⟩ = some (.int .i64 a0_22) := (blk_cell BK198.out 22).trans rfl; have hcz4_23 : w3.cell? ⟨gb198, 23, none⟩ = some (.int .i64 a0_23) := (blk_cell BK198.out 23).trans rfl; have hcz4_24 : w3.cell? ⟨gb198, 24, none⟩ = some (.bool a0_24) := (blk_cell BK198.out 24).trans rfl; have hcz4_25 : w3.cell? ⟨gb198, 25, none⟩ = some (.bool a0_25) := (blk_cell BK198.out 25).trans rfl; have hcz4_26 : w3.cell? ⟨gb198, 26, none⟩ = some (.int .i64 a0_26) := (blk_cell BK198.out 26).trans rfl; have hcz4_27 : w3.cell? ⟨gb198, 27, none⟩ = some (.int .i64 a0_27) := (blk_cell BK198.out 27).trans rfl; have hcz4_28 : w3.cell? ⟨gb198, 28, none⟩ = some (.int .u8 a0_28) := (blk_cell BK198.out 28).trans rfl; have hcz4_29 : w3.cell? ⟨gb198, 29, none⟩ = some (.bool a0_29) := (blk_cell BK198.out 29).trans rfl; have hfz4_0 := blk_frozen BK198.out 0; have hfz4_1 := blk_frozen BK198.out 1; have hfz4_2 := blk_frozen BK198.out 2; have hfz4_3 := blk_frozen BK198.out 3; have hfz4_4 := blk_frozen BK198.out 4; have hfz4_5 := blk_frozen BK198.out 5; have hfz4_6 := blk_frozen BK198.out 6; have hfz4_7 := blk_frozen BK198.out 7; have hfz4_8 := blk_frozen BK198.out 8; have hfz4_9 := blk_frozen BK198.out 9; have hfz4_10 := blk_frozen BK198.out 10; have hfz4_11 := blk_frozen BK198.out 11; have hfz4_12 := blk_frozen BK198.out 12; have hfz4_13 := blk_frozen BK198.out 13; have hfz4_14 := blk_frozen BK198.out 14; have hfz4_15 := blk_frozen BK198.out 15; have hfz4_16 := blk_frozen BK198.out 16; have hfz4_17 := blk_frozen BK198.out 17; have hfz4_18 := blk_frozen BK198.out 18; have hfz4_19 := blk_frozen BK198.out 19; have hfz4_20 := blk_frozen BK198.out 20; have hfz4_21 := blk_frozen BK198.out 21; have hfz4_22 := blk_frozen BK198.out 22; have hfz4_23 := blk_frozen BK198.out 23; have hfz4_24 := blk_frozen BK198.out 24; have hfz4_25 := blk_frozen BK198.out 25; have hfz4_26 := blk_frozen BK198.out 26; have hfz4_27 := blk_frozen BK198.out 27; have hfz4_28 := blk_frozen BK198.out 28; have hfz4_29 := blk_frozen BK198.out 29))
    go_ret
    exact ⟨by first | rfl | (simp [errW_none, errW_some] <;> rfl) | (simp [*, errW_none, errW_some] <;> rfl), by repeat (first | (with_reducible first | exact HB.out | apply below_alloc | apply Go.Proofs.YtohblegfpghejaaDoor.Ext.below_bytes | apply pw_below_drewN | apply below_drew1 | refine below_set ?_ GE198.out) | exact HB.out)⟩
  · rw [if_neg c2] at H
    have c2b0 : decide (2147483647 < (a0_11.size : Int)) = false := decide_eq_false c2
    have c2b1 : decide (2147483647 < a0_11.size) = false := decide_eq_false (by omega)
    clear c2
    obtain rfl := Option.some.inj H
    go_enter Tryd.func15, Tryd.ntmps15
    go_wp2_with (first | ((with_reducible refine gate_dst (N := 1) rfl ?_); refine box_event ?hg (N := 1) ?hd (cs := #[.int .u8 a0_0, .int .u8 a0_1, .int .u8 a0_2, .int .i64 a0_3, .int .i64 a0_4, .int .i64 a0_5, .int .i64 a0_6, .int .i64 a0_7, .int .i64 a0_8, .int .u8 a0_9, .int .u8 a0_10, .string a0_11, .int .i64 a0_12, .int .i64 a0_13, .bool a0_14, .int .i64 a0_15, .int .i64 a0_16, .int .i64 a0_17, .int .i64 a0_18, .int .i64 a0_19, .int .i64 a0_20, .int .i64 a0_21, .int .i64 a0_22, .int .i64 a0_23, .bool a0_24, .bool a0_25, .int .i64 a0_26, .int .i64 a0_27, .int .u8 a0_28, .bool a0_29]) (t := 32) ?hr ?_; (case hd => rfl); (case hg => rfl); (case hr => first | (go_simp; done) | (go_simp; rfl)); intro gb198 hg w5 hbox hb; have n0_ := Aside0.mk (below_step (by repeat (first | (with_reducible first | exact HB.out | apply below_alloc | apply Go.Proofs.YtohblegfpghejaaDoor.Ext.below_bytes | apply pw_below_drewN | apply below_drew1) | exact HB.out)) hb); have n1_ := Aside0.mk (hbox); have n2_ := Aside0.mk ((by rw [hg]; exact (below_size (by repeat (first | (with_reducible first | exact HB.out | apply below_alloc | apply Go.Proofs.YtohblegfpghejaaDoor.Ext.below_bytes | apply pw_below_drewN | apply below_drew1) | exact HB.out))) : w.heap.size ≤ gb198)); have n3_ := Aside0.mk ((by rw [hg]; exact (below_size (by repeat (first | (with_reducible first | exact HB.out | apply below_alloc | apply Go.Proofs.YtohblegfpghejaaDoor.Ext.below_bytes | apply pw_below_drewN | apply below_drew1) | exact HB.out))) : w.heap.size ≤ gb198)); clear HB; have HB := n0_; have BK198 := n1_; have GW198 := n2_; have GE198 := n3_; clear n0_ n1_ n2_ n3_; clear hb hbox hg; have hcz6_0 : w5.cell? ⟨gb198, 0, none⟩ = some (.int .u8 a0_0) := (blk_cell BK198.out 0).trans rfl; have hcz6_1 : w5.cell? ⟨gb198, 1, none⟩ = some (.int .u8 a0_1) := (blk_cell BK198.out 1).trans rfl; have hcz6_2 : w5.cell? ⟨gb198, 2, none⟩ = some (.int .u8 a0_2) := (blk_cell BK198.out 2).trans rfl; have hcz6_3 : w5.cell? ⟨gb198, 3, none⟩ = some (.int .i64 a0_3) := (blk_cell BK198.out 3).trans rfl; have hcz6_4 : w5.cell? ⟨gb198, 4, none⟩ = some (.int .i64 a0_4) := (blk_cell BK198.out 4).trans rfl; have hcz6_5 : w5.cell? ⟨gb198, 5, none⟩ = some (.int .i64 a0_5) := (blk_cell BK198.out 5).trans rfl; have hcz6_6 : w5.cell? ⟨gb198, 6, none⟩ = some (.int .i64 a0_6) := (blk_cell BK198.out 6).trans rfl; have hcz6_7 : w5.cell? ⟨gb198, 7, none⟩ = some (.int .i64 a0_7) := (blk_cell BK198.out 7).trans rfl; have hcz6_8 : w5.cell? ⟨gb198, 8, none⟩ = some (.int .i64 a0_8) := (blk_cell BK198.out 8).trans rfl; have hcz6_9 : w5.cell? ⟨gb198, 9, none⟩ = some (.int .u8 a0_9) := (blk_cell BK198.out 9).trans rfl; have hcz6_10 : w5.cell? ⟨gb198, 10, none⟩ = some (.int .u8 a0_10) := (blk_cell BK198.out 10).trans rfl; have hcz6_11 : w5.cell? ⟨gb198, 11, none⟩ = some (.string a0_11) := (blk_cell BK198.out 11).trans rfl; have hcz6_12 : w5.cell? ⟨gb198, 12, none⟩ = some (.int .i64 a0_12) := (blk_cell BK198.out 12).trans rfl; have hcz6_13 : w5.cell? ⟨gb198, 13, none⟩ = some (.int .i64 a0_13) := (blk_cell BK198.out 13).trans rfl; have hcz6_14 : w5.cell? ⟨gb198, 14, none⟩ = some (.bool a0_14) := (blk_cell BK198.out 14).trans rfl; have hcz6_15 : w5.cell? ⟨gb198, 15, none⟩ = some (.int .i64 a0_15) := (blk_cell BK198.out 15).trans rfl; have hcz6_16 : w5.cell? ⟨gb198, 16, none⟩ = some (.int .i64 a0_16) := (blk_cell BK198.out 16).trans rfl; have hcz6_17 : w5.cell? ⟨gb198, 17, none⟩ = some (.int .i64 a0_17) := (blk_cell BK198.out 17).trans rfl; have hcz6_18 : w5.cell? ⟨gb198, 18, none⟩ = some (.int .i64 a0_18) := (blk_cell BK198.out 18).trans rfl; have hcz6_19 : w5.cell? ⟨gb198, 19, none⟩ = some (.int .i64 a0_19) := (blk_cell BK198.out 19).trans rfl; have hcz6_20 : w5.cell? ⟨gb198, 20, none⟩ = some (.int .i64 a0_20) := (blk_cell BK198.out 20).trans rfl; have hcz6_21 : w5.cell? ⟨gb198, 21, none⟩ = some (.int .i64 a0_21) := (blk_cell BK198.out 21).trans rfl; have hcz6_22 : w5.cell? ⟨gb198, 22, none⟩ = some (.int .i64 a0_22) := (blk_cell BK198.out 22).trans rfl; have hcz6_23 : w5.cell? ⟨gb198, 23, none⟩ = some (.int .i64 a0_23) := (blk_cell BK198.out 23).trans rfl; have hcz6_24 : w5.cell? ⟨gb198, 24, none⟩ = some (.bool a0_24) := (blk_cell BK198.out 24).trans rfl; have hcz6_25 : w5.cell? ⟨gb198, 25, none⟩ = some (.bool a0_25) := (blk_cell BK198.out 25).trans rfl; have hcz6_26 : w5.cell? ⟨gb198, 26, none⟩ = some (.int .i64 a0_26) := (blk_cell BK198.out 26).trans rfl; have hcz6_27 : w5.cell? ⟨gb198, 27, none⟩ = some (.int .i64 a0_27) := (blk_cell BK198.out 27).trans rfl; have hcz6_28 : w5.cell? ⟨gb198, 28, none⟩ = some (.int .u8 a0_28) := (blk_cell BK198.out 28).trans rfl; have hcz6_29 : w5.cell? ⟨gb198, 29, none⟩ = some (.bool a0_29) := (blk_cell BK198.out 29).trans rfl; have hfz6_0 := blk_frozen BK198.out 0; have hfz6_1 := blk_frozen BK198.out 1; have hfz6_2 := blk_frozen BK198.out 2; have hfz6_3 := blk_frozen BK198.out 3; have hfz6_4 := blk_frozen BK198.out 4; have hfz6_5 := blk_frozen BK198.out 5; have hfz6_6 := blk_frozen BK198.out 6; have hfz6_7 := blk_frozen BK198.out 7; have hfz6_8 := blk_frozen BK198.out 8; have hfz6_9 := blk_frozen BK198.out 9; have hfz6_10 := blk_frozen BK198.out 10; have hfz6_11 := blk_frozen BK198.out 11; have hfz6_12 := blk_frozen BK198.out 12; have hfz6_13 := blk_frozen BK198.out 13; have hfz6_14 := blk_frozen BK198.out 14; have hfz6_15 := blk_frozen BK198.out 15; have hfz6_16 := blk_frozen BK198.out 16; have hfz6_17 := blk_frozen BK198.out 17; have hfz6_18 := blk_frozen BK198.out 18; have hfz6_19 := blk_frozen BK198.out 19; have hfz6_20 := blk_frozen BK198.out 20; have hfz6_21 := blk_frozen BK198.out 21; have hfz6_22 := blk_frozen BK198.out 22; have hfz6_23 := blk_frozen BK198.out 23; have hfz6_24 := blk_frozen BK198.out 24; have hfz6_25 := blk_frozen BK198.out 25; have hfz6_26 := blk_frozen BK198.out 26; have hfz6_27 := blk_frozen BK198.out 27; have hfz6_28 := blk_frozen BK198.out 28; have hfz6_29 := blk_frozen BK198.out 29))
    go_ret
    exact ⟨by first | rfl | (simp [errW_none, errW_some] <;> rfl) | (simp [*, errW_none, errW_some] <;> rfl), by repeat (first | (with_reducible first | exact HB.out | apply below_alloc | apply Go.Proofs.YtohblegfpghejaaDoor.Ext.below_bytes | apply pw_below_drewN | apply below_drew1 | refine below_set ?_ GE198.out) | exact HB.out)⟩

-- NOT PRINTED: function 28 (impl_kittyOf)

-- NOT PRINTED: function 29 (kitty_Options_Options)

/-! ### kitty_zzJoin: function 76 -/
def kitty_zzJoin.l0 : Nat → ByteArray → ByteArray → List ByteArray → Int → Int → Option (ByteArray)
  | 0, _, _, _, _, _ => none
  | k + 1, x1, x5, x8, x9, x10 => if x10 < x9 then (if 0 ≤ x10 then (if x10 < (x8.length : Int) then (if x10 > 0 then (if x5.size + x1.size ≤ 9223372036854775807 then (if x5.size + x1.size + (rdOf ByteArray.empty x8 x10).size ≤ 9223372036854775807 then (kitty_zzJoin.l0 k x1 ((x5 ++ x1) ++ (rdOf ByteArray.empty x8 x10)) x8 x9 (wrap64 (x10 + 1))) else (none)) else (none)) else (if x5.size + (rdOf ByteArray.empty x8 x10).size ≤ 9223372036854775807 then (kitty_zzJoin.l0 k x1 (x5 ++ (rdOf ByteArray.empty x8 x10)) x8 x9 (wrap64 (x10 + 1))) else (none))) else (none)) else (none)) else (some x5)
def kitty_zzJoin.f (k : Nat) (l0 : List ByteArray) (a1 : ByteArray) : Option (ByteArray) := kitty_zzJoin.l0 k a1 (⟨#[]⟩ : ByteArray) l0 (l0.length : Int) 0
theorem kitty_zzJoin.mono_l : ∀ k, (∀ y0 y1 y2 y3 y4, LeO (kitty_zzJoin.l0 k y0 y1 y2 y3 y4) (kitty_zzJoin.l0 (k + 1) y0 y1 y2 y3 y4))
  | 0 => fun _ _ _ _ _ r h => by simp [kitty_zzJoin.l0] at h
  | k + 1 => by
    have ih0 := kitty_zzJoin.mono_l k
    · intro y0 y1 y2 y3 y4
      unfold kitty_zzJoin.l0
      repeat' first
      | (with_reducible exact ih0 _ _ _ _ _)
      | (with_reducible exact LeO.refl _)
      | (with_reducible exact LeO.none _)
      | (with_reducible refine LeO.ite ?_ ?_)
      | (with_reducible refine LeO.bind ?_ (fun _ => ?_))
      | exact ih0 _ _ _ _ _
      | exact LeO.none _
      | refine LeO.ite ?_ ?_
      | refine LeO.bind ?_ (fun _ => ?_)
theorem kitty_zzJoin.mono : ∀ a0 a1 k, LeO (kitty_zzJoin.f k a0 a1) (kitty_zzJoin.f (k + 1) a0 a1) := by
  intro a0 a1 k
  have ih0 := kitty_zzJoin.mono_l k
  unfold kitty_zzJoin.f
  repeat' first
      | (with_reducible exact ih0 _ _ _ _ _)
      | (with_reducible exact LeO.refl _)
      | (with_reducible exact LeO.none _)
      | (with_reducible refine LeO.ite ?_ ?_)
      | (with_reducible refine LeO.bind ?_ (fun _ => ?_))
      | exact ih0 _ _ _ _ _
      | exact LeO.none _
      | refine LeO.ite ?_ ?_
      | refine LeO.bind ?_ (fun _ => ?_)
set_option maxHeartbeats 8000000 in
set_option maxRecDepth 100000 in
theorem kitty_zzJoin.calls (k : Nat) (A0 : Option Addr) (c0 : Nat) (l0 : List ByteArray) (a1 : ByteArray) (r : ByteArray) (w : World) (hr0 : Kd.C Kd.string w A0 l0.length l0) (hc0 : l0.length ≤ c0) (h : kitty_zzJoin.f k l0 a1 = some r) :
    Calls Tryd.prog 76 #[.slice A0 l0.length c0, .string a1] w fun e w' => e = .returned (.string r) ∧ Drawn0 w w' := by
  have HR0 := Aside0.mk hr0
  have HC0 := Aside0.mk hc0
  clear hr0 hc0
  have H : (kitty_zzJoin.l0 k a1 (⟨#[]⟩ : ByteArray) l0 (l0.length : Int) 0) = some r := h
  clear h
  have H' := Aside0.mk H
  clear H
  go_enter Tryd.func76, Tryd.ntmps76
  go_wp2
  go_loopg [5, 10] k (fun kq v5 v10 w' => ∃ (x5_1 : ByteArray) (x10_1 : Int), v5 = .string x5_1 ∧ v10 = .int .i64 x10_1 ∧ Aside0 (kitty_zzJoin.l0 kq a1 x5_1 l0 (l0.length : Int) x10_1 = some r) ∧ Aside0 (kq ≤ k) ∧ Drawn0 w w')
  case atStart => exact ⟨((⟨#[]⟩ : ByteArray)), (0), (by first | rfl | (simp; done) | (simp [*]; done)), (by first | rfl | (simp; done) | (simp [*]; done)), H', ⟨Nat.le_refl _⟩, by repeat (first | exact Drawn0.refl _ | apply Drawn0.step)⟩
  case round =>
    clear H'
    try clear p2
    obtain ⟨x5_1, x10_1, rfl, rfl, HA, HK1, ⟨m1, rfl⟩⟩ := hrel
    cases gk with
    | zero => exact absurd HA.out (by simp [kitty_zzJoin.l0])
    | succ k1 =>
      have H := HA.out
      clear HA
      simp only [kitty_zzJoin.l0] at H
      by_cases c3 : x10_1 < (l0.length : Int)
      · rw [if_pos c3] at H
        have c3b0 : decide (x10_1 < (l0.length : Int)) = true := decide_eq_true c3
        clear c3
        by_cases c4 : 0 ≤ x10_1
        · rw [if_pos c4] at H
          have c4b0 : decide (0 ≤ x10_1) = true := decide_eq_true c4
          clear c4
          by_cases c5 : x10_1 < (l0.length : Int)
          · rw [if_pos c5] at H
            have c5b0 : decide (x10_1 < (l0.length : Int)) = true := decide_eq_true c5
            clear c5
            by_cases c6 : x10_1 > 0
            · rw [if_pos c6] at H
              have c6b0 : decide (0 < x10_1) = true := decide_eq_true c6
              clear c6
              by_cases c7 : x5_1.size + a1.size ≤ 9223372036854775807
              · rw [if_pos c7] at H
                have c7b0 := eq_true c7
                have c7b1 : decide (x5_1.size + a1.size ≤ 9223372036854775807) = true := decide_eq_true c7
                try have c7b2 : (9223372036854775807 < x5_1.size + a1.size) = False := eq_false (Nat.not_lt.2 c7)
                by_cases c8 : x5_1.size + a1.size + (rdOf ByteArray.empty l0 x10_1).size ≤ 9223372036854775807
                · rw [if_pos c8] at H
                  have c8b0 := eq_true c8
                  have c8b1 : decide (x5_1.size + a1.size + (rdOf ByteArray.empty l0 x10_1).size ≤ 9223372036854775807) = true := decide_eq_true c8
                  try have c8b2 : (9223372036854775807 < x5_1.size + a1.size + (rdOf ByteArray.empty l0 x10_1).size) = False := eq_false (Nat.not_lt.2 c8)
                  have H' := Aside0.mk H
                  clear H
                  have p199 : 0 ≤ (x10_1 : Int) := of_decide_eq_true (by first | (with_reducible assumption) | assumption)
                  have q199 : x10_1 < (l0.length : Int) := of_decide_eq_true (by first | (with_reducible assumption) | assumption)
                  obtain ⟨ad199, e199, hx199_0⟩ := Kd.at_string HR0.out x10_1 p199 q199
                  cases e199
                  replace p199 := eq_true p199
                  replace q199 := eq_true q199
                  go_wp2
                  go_roundg k1
                  case measure => have := HK1.out; omega
                  case rel => exact ⟨((x5_1 ++ a1) ++ (rdOf ByteArray.empty l0 x10_1)), (wrap64 (x10_1 + 1)), (by first | rfl | (simp; done) | (simp [*]; done)), (by first | rfl | (simp; done) | (simp [*]; done)), H', ⟨by have := HK1.out; omega⟩, by repeat (first | exact Drawn0.refl _ | apply Drawn0.step)⟩
                · rw [if_neg c8] at H
                  exact absurd H (by simp)
              · rw [if_neg c7] at H
                exact absurd H (by simp)
            · rw [if_neg c6] at H
              have c6b0 : decide (0 < x10_1) = false := decide_eq_false c6
              clear c6
              by_cases c9 : x5_1.size + (rdOf ByteArray.empty l0 x10_1).size ≤ 9223372036854775807
              · rw [if_pos c9] at H
                have c9b0 := eq_true c9
                have c9b1 : decide (x5_1.size + (rdOf ByteArray.empty l0 x10_1).size ≤ 9223372036854775807) = true := decide_eq_true c9
                try have c9b2 : (9223372036854775807 < x5_1.size + (rdOf ByteArray.empty l0 x10_1).size) = False := eq_false (Nat.not_lt.2 c9)
                have H' := Aside0.mk H
                clear H
                have p199 : 0 ≤ (x10_1 : Int) := of_decide_eq_true (by first | (with_reducible assumption) | assumption)
                have q199 : x10_1 < (l0.length : Int) := of_decide_eq_true (by first | (with_reducible assumption) | assumption)
                obtain ⟨ad199, e199, hx199_0⟩ := Kd.at_string HR0.out x10_1 p199 q199
                cases e199
                replace p199 := eq_true p199
                replace q199 := eq_true q199
                go_wp2
                go_roundg k1
                case measure => have := HK1.out; omega
                case rel => exact ⟨(x5_1 ++ (rdOf ByteArray.empty l0 x10_1)), (wrap64 (x10_1 + 1)), (by first | rfl | (simp; done) | (simp [*]; done)), (by first | rfl | (simp; done) | (simp [*]; done)), H', ⟨by have := HK1.out; omega⟩, by repeat (first | exact Drawn0.refl _ | apply Drawn0.step)⟩
              · rw [if_neg c9] at H
                exact absurd H (by simp)
          · rw [if_neg c5] at H
            exact absurd H (by simp)
        · rw [if_neg c4] at H
          exact absurd H (by simp)
      · rw [if_neg c3] at H
        have c3b0 : decide (x10_1 < (l0.length : Int)) = false := decide_eq_false c3
        clear c3
        obtain rfl := Option.some.inj H
        go_wp2
        go_ret
        exact ⟨by first | rfl | (simp; done) | (simp [*]; done), by repeat (first | exact Drawn0.refl _ | apply Drawn0.step)⟩

-- NOT PRINTED: function 33 (kitty_Options_String)

-- NOT PRINTED: function 20 (impl_KittyString)

-- NOT PRINTED: function 16 (laws_kittyAwake)

/-! ### laws_sameTexts: function 17 -/
def laws_sameTexts.l0 : Nat → List ByteArray → List ByteArray → Int → Int → Option (Bool)
  | 0, _, _, _, _ => none
  | k + 1, x0, x1, x12, x13 => if x13 < x12 then (if 0 ≤ x13 then (if x13 < (x0.length : Int) then (if x13 < (x1.length : Int) then (if (rdOf ByteArray.empty x0 x13).toList = (rdOf ByteArray.empty x1 x13).toList then (laws_sameTexts.l0 k x0 x1 x12 (wrap64 (x13 + 1))) else (some false)) else (none)) else (none)) else (none)) else (some true)
def laws_sameTexts.f (k : Nat) (l0 : List ByteArray) (l1 : List ByteArray) : Option (Bool) := if (l0.length : Int) = (l1.length : Int) then (laws_sameTexts.l0 k l0 l1 (l0.length : Int) 0) else (some false)
theorem laws_sameTexts.mono_l : ∀ k, (∀ y0 y1 y2 y3, LeO (laws_sameTexts.l0 k y0 y1 y2 y3) (laws_sameTexts.l0 (k + 1) y0 y1 y2 y3))
  | 0 => fun _ _ _ _ r h => by simp [laws_sameTexts.l0] at h
  | k + 1 => by
    have ih0 := laws_sameTexts.mono_l k
    · intro y0 y1 y2 y3
      unfold laws_sameTexts.l0
      repeat' first
      | (with_reducible exact ih0 _ _ _ _)
      | (with_reducible exact LeO.refl _)
      | (with_reducible exact LeO.none _)
      | (with_reducible refine LeO.ite ?_ ?_)
      | (with_reducible refine LeO.bind ?_ (fun _ => ?_))
      | exact ih0 _ _ _ _
      | exact LeO.none _
      | refine LeO.ite ?_ ?_
      | refine LeO.bind ?_ (fun _ => ?_)
theorem laws_sameTexts.mono : ∀ a0 a1 k, LeO (laws_sameTexts.f k a0 a1) (laws_sameTexts.f (k + 1) a0 a1) := by
  intro a0 a1 k
  have ih0 := laws_sameTexts.mono_l k
  unfold laws_sameTexts.f
  repeat' first
      | (with_reducible exact ih0 _ _ _ _)
      | (with_reducible exact LeO.refl _)
      | (with_reducible exact LeO.none _)
      | (with_reducible refine LeO.ite ?_ ?_)
      | (with_reducible refine LeO.bind ?_ (fun _ => ?_))
      | exact ih0 _ _ _ _
      | exact LeO.none _
      | refine LeO.ite ?_ ?_
      | refine LeO.bind ?_ (fun _ => ?_)
set_option maxHeartbeats 8000000 in
set_option maxRecDepth 100000 in
theorem laws_sameTexts.calls (k : Nat) (A0 : Option Addr) (c0 : Nat) (l0 : List ByteArray) (A1 : Option Addr) (c1 : Nat) (l1 : List ByteArray) (r : Bool) (w : World) (hr0 : Kd.C Kd.string w A0 l0.length l0) (hc0 : l0.length ≤ c0) (hr1 : Kd.C Kd.string w A1 l1.length l1) (hc1 : l1.length ≤ c1) (h : laws_sameTexts.f k l0 l1 = some r) :
    Calls Tryd.prog 17 #[.slice A0 l0.length c0, .slice A1 l1.length c1] w fun e w' => e = .returned (.bool r) ∧ Drawn0 w w' := by
  have HR0 := Aside0.mk hr0
  have HC0 := Aside0.mk hc0
  clear hr0 hc0
  have HR1 := Aside0.mk hr1
  have HC1 := Aside0.mk hc1
  clear hr1 hc1
  have H : (if (l0.length : Int) = (l1.length : Int) then (laws_sameTexts.l0 k l0 l1 (l0.length : Int) 0) else (some false)) = some r := h
  clear h
  by_cases c3 : (l0.length : Int) = (l1.length : Int)
  · rw [if_pos c3] at H
    have c3b0 : ((l0.length : Int) == (l1.length : Int)) = true := beq_iff_eq.mpr c3
    have c3b1 : ((l0.length : Int) != (l1.length : Int)) = false := bne_eq_false_iff_eq.mpr c3
    have c3b2 : (l0.length == l1.length) = true := by first | simpa using c3 | (simp at c3 ⊢; omega)
    clear c3
    have H' := Aside0.mk H
    clear H
    go_enter Tryd.func17, Tryd.ntmps17
    go_wp2
    repeat (go_quiet (fail); try go_wp2)
    go_loopg [13] k (fun kq v13 w' => ∃ (x13_1 : Int), v13 = .int .i64 x13_1 ∧ Aside0 (laws_sameTexts.l0 kq l0 l1 (l0.length : Int) x13_1 = some r) ∧ Aside0 (kq ≤ k) ∧ Drawn0 w w')
    case atStart => exact ⟨(0), (by first | rfl | (simp; done) | (simp [*]; done)), H', ⟨Nat.le_refl _⟩, by repeat (first | exact Drawn0.refl _ | apply Drawn0.step)⟩
    case round =>
      clear H'
      try clear c1
      try clear p2
      try clear c3
      try clear c3b0
      try clear c3b1
      try clear c3b2
      obtain ⟨x13_1, rfl, HA, HK1, ⟨m1, rfl⟩⟩ := hrel
      cases gk with
      | zero => exact absurd HA.out (by simp [laws_sameTexts.l0])
      | succ k1 =>
        have H := HA.out
        clear HA
        simp only [laws_sameTexts.l0] at H
        by_cases c4 : x13_1 < (l0.length : Int)
        · rw [if_pos c4] at H
          have c4b0 : decide (x13_1 < (l0.length : Int)) = true := decide_eq_true c4
          clear c4
          by_cases c5 : 0 ≤ x13_1
          · rw [if_pos c5] at H
            have c5b0 : decide (0 ≤ x13_1) = true := decide_eq_true c5
            clear c5
            by_cases c6 : x13_1 < (l0.length : Int)
            · rw [if_pos c6] at H
              have c6b0 : decide (x13_1 < (l0.length : Int)) = true := decide_eq_true c6
              clear c6
              by_cases c7 : x13_1 < (l1.length : Int)
              · rw [if_pos c7] at H
                have c7b0 : decide (x13_1 < (l1.length : Int)) = true := decide_eq_true c7
                clear c7
                by_cases c8 : (rdOf ByteArray.empty l0 x13_1).toList = (rdOf ByteArray.empty l1 x13_1).toList
                · rw [if_pos c8] at H
                  have c8b0 : ((rdOf ByteArray.empty l0 x13_1).toList == (rdOf ByteArray.empty l1 x13_1).toList) = true := beq_iff_eq.mpr c8
                  have c8b1 : ((rdOf ByteArray.empty l0 x13_1).toList != (rdOf ByteArray.empty l1 x13_1).toList) = false := bne_eq_false_iff_eq.mpr c8
                  clear c8
                  have H' := Aside0.mk H
                  clear H
                  have p201 : 0 ≤ (x13_1 : Int) := of_decide_eq_true (by first | (with_reducible assumption) | assumption)
                  have q201 : x13_1 < (l0.length : Int) := of_decide_eq_true (by first | (with_reducible assumption) | assumption)
                  obtain ⟨ad201, e201, hx201_0⟩ := Kd.at_string HR0.out x13_1 p201 q201
                  cases e201
                  replace p201 := eq_true p201
                  replace q201 := eq_true q201
                  have p202 : 0 ≤ (x13_1 : Int) := of_decide_eq_true (by first | (with_reducible assumption) | assumption)
                  have q202 : x13_1 < (l1.length : Int) := of_decide_eq_true (by first | (with_reducible assumption) | assumption)
                  obtain ⟨ad202, e202, hx202_0⟩ := Kd.at_string HR1.out x13_1 p202 q202
                  cases e202
                  replace p202 := eq_true p202
                  replace q202 := eq_true q202
                  go_wp2
                  repeat (go_quiet (fail); try go_wp2)
                  go_roundg k1
                  case measure => have := HK1.out; omega
                  case rel => exact ⟨(wrap64 (x13_1 + 1)), (by first | rfl | (simp; done) | (simp [*]; done)), H', ⟨by have := HK1.out; omega⟩, by repeat (first | exact Drawn0.refl _ | apply Drawn0.step)⟩
                · rw [if_neg c8] at H
                  have c8b0 : ((rdOf ByteArray.empty l0 x13_1).toList == (rdOf ByteArray.empty l1 x13_1).toList) = false := beq_eq_false_iff_ne.mpr c8
                  have c8b1 : ((rdOf ByteArray.empty l0 x13_1).toList != (rdOf ByteArray.empty l1 x13_1).toList) = true := bne_iff_ne.mpr c8
                  obtain rfl := Option.some.inj H
                  have p201 : 0 ≤ (x13_1 : Int) := of_decide_eq_true (by first | (with_reducible assumption) | assumption)
                  have q201 : x13_1 < (l0.length : Int) := of_decide_eq_true (by first | (with_reducible assumption) | assumption)
                  obtain ⟨ad201, e201, hx201_0⟩ := Kd.at_string HR0.out x13_1 p201 q201
                  cases e201
                  replace p201 := eq_true p201
                  replace q201 := eq_true q201
                  have p202 : 0 ≤ (x13_1 : Int) := of_decide_eq_true (by first | (with_reducible assumption) | assumption)
                  have q202 : x13_1 < (l1.length : Int) := of_decide_eq_true (by first | (with_reducible assumption) | assumption)
                  obtain ⟨ad202, e202, hx202_0⟩ := Kd.at_string HR1.out x13_1 p202 q202
                  cases e202
                  replace p202 := eq_true p202
                  replace q202 := eq_true q202
                  go_wp2
                  repeat (go_quiet (fail); try go_wp2)
                  go_ret
                  exact ⟨by first | rfl | (simp; done) | (simp [*]; done), by repeat (first | exact Drawn0.refl _ | apply Drawn0.step)⟩
              · rw [if_neg c7] at H
                exact absurd H (by simp)
            · rw [if_neg c6] at H
              exact absurd H (by simp)
          · rw [if_neg c5] at H
            exact absurd H (by simp)
        · rw [if_neg c4] at H
          have c4b0 : decide (x13_1 < (l0.length : Int)) = false := decide_eq_false c4
          clear c4
          obtain rfl := Option.some.inj H
          go_wp2
          repeat (go_quiet (fail); try go_wp2)
          go_ret
          exact ⟨by first | rfl | (simp; done) | (simp [*]; done), by repeat (first | exact Drawn0.refl _ | apply Drawn0.step)⟩
  · rw [if_neg c3] at H
    have c3b0 : ((l0.length : Int) == (l1.length : Int)) = false := beq_eq_false_iff_ne.mpr c3
    have c3b1 : ((l0.length : Int) != (l1.length : Int)) = true := bne_iff_ne.mpr c3
    have c3b2 : (l0.length == l1.length) = false := by first | simpa using c3 | (simp at c3 ⊢; omega)
    obtain rfl := Option.some.inj H
    go_enter Tryd.func17, Tryd.ntmps17
    go_wp2
    repeat (go_quiet (fail); try go_wp2)
    go_ret
    exact ⟨by first | rfl | (simp; done) | (simp [*]; done), by repeat (first | exact Drawn0.refl _ | apply Drawn0.step)⟩

-- NOT PRINTED: function 18 (impl_KittyList)

/-! ### spec_Digits: function 31 -/
def spec_Digits.f : Nat → Int → Option (ByteArray)
  | 0, _ => none
  | k + 1, a0 => if a0 < 0 then (if a0 = (-9223372036854775808) then (some (⟨#[45, 57, 50, 50, 51, 51, 55, 50, 48, 51, 54, 56, 53, 52, 55, 55, 53, 56, 48, 56]⟩ : ByteArray)) else ((spec_Digits.f k (wrap64 (-a0))).bind fun t204 => (if 1 + t204.size ≤ 9223372036854775807 then (some ((⟨#[45]⟩ : ByteArray) ++ t204)) else (none)))) else (if a0 < 10 then (some (strOfNums (([(wrap64 (48 + a0)) % 256] : List Int)))) else ((spec_Digits.f k (wrap64 (Int.tdiv a0 10))).bind fun t208 => ((spec_Digits.f k (Int.tmod a0 10)).bind fun t209 => (if t208.size + t209.size ≤ 9223372036854775807 then (some (t208 ++ t209)) else (none)))))
theorem spec_Digits.mono_l : ∀ k, (∀ y0, LeO (spec_Digits.f k y0) (spec_Digits.f (k + 1) y0))
  | 0 => fun _ r h => by simp [spec_Digits.f] at h
  | k + 1 => by
    have ih0 := spec_Digits.mono_l k
    · intro y0
      unfold spec_Digits.f
      repeat' first
      | (with_reducible exact ih0 _)
      | (with_reducible exact LeO.refl _)
      | (with_reducible exact LeO.none _)
      | (with_reducible refine LeO.ite ?_ ?_)
      | (with_reducible refine LeO.bind ?_ (fun _ => ?_))
      | exact ih0 _
      | exact LeO.none _
      | refine LeO.ite ?_ ?_
      | refine LeO.bind ?_ (fun _ => ?_)
theorem spec_Digits.mono : ∀ a0 k, LeO (spec_Digits.f k a0) (spec_Digits.f (k + 1) a0) := by
  intro a0 k
  have ih0 := spec_Digits.mono_l k
  exact ih0 a0
set_option maxHeartbeats 8000000 in
set_option maxRecDepth 100000 in
theorem spec_Digits.calls (k : Nat) : ∀ (a0 : Int) (r : ByteArray) (w : World) (h : spec_Digits.f k a0 = some r),
    Calls Tryd.prog 31 #[.int .i64 a0] w fun e w' => e = .returned (.string r) ∧ Below w.heap.size w w' := by
  induction k using Nat.strongRecOn with
  | _ k ih =>
  intro a0 r w h
  cases k with
  | zero => exact absurd h (by simp [spec_Digits.f])
  | succ k =>
  simp only [spec_Digits.f] at h
  have HB := Aside0.mk (Below.refl w.heap.size w)
  have H : (if a0 < 0 then (if a0 = (-9223372036854775808) then (some (⟨#[45, 57, 50, 50, 51, 51, 55, 50, 48, 51, 54, 56, 53, 52, 55, 55, 53, 56, 48, 56]⟩ : ByteArray)) else ((spec_Digits.f k (wrap64 (-a0))).bind fun t204 => (if 1 + t204.size ≤ 9223372036854775807 then (some ((⟨#[45]⟩ : ByteArray) ++ t204)) else (none)))) else (if a0 < 10 then (some (strOfNums (([(wrap64 (48 + a0)) % 256] : List Int)))) else ((spec_Digits.f k (wrap64 (Int.tdiv a0 10))).bind fun t208 => ((spec_Digits.f k (Int.tmod a0 10)).bind fun t209 => (if t208.size + t209.size ≤ 9223372036854775807 then (some (t208 ++ t209)) else (none)))))) = some r := h
  clear h
  by_cases c2 : a0 < 0
  · rw [if_pos c2] at H
    have c2b0 : decide (a0 < 0) = true := decide_eq_true c2
    clear c2
    by_cases c3 : a0 = (-9223372036854775808)
    · rw [if_pos c3] at H
      have c3b0 : (a0 == (-9223372036854775808)) = true := beq_iff_eq.mpr c3
      have c3b1 : (a0 != (-9223372036854775808)) = false := bne_eq_false_iff_eq.mpr c3
      clear c3
      obtain rfl := Option.some.inj H
      go_enter Tryd.func31, Tryd.ntmps31
      go_wp2
      go_ret
      exact ⟨by first | rfl | (simp [errW_none, errW_some] <;> rfl) | (simp [*, errW_none, errW_some] <;> rfl), by repeat (first | (with_reducible first | exact HB.out | apply below_alloc | apply Go.Proofs.YtohblegfpghejaaDoor.Ext.below_bytes | apply pw_below_drewN | apply below_drew1) | exact HB.out)⟩
    · rw [if_neg c3] at H
      have c3b0 : (a0 == (-9223372036854775808)) = false := beq_eq_false_iff_ne.mpr c3
      have c3b1 : (a0 != (-9223372036854775808)) = true := bne_iff_ne.mpr c3
      replace H := Option.bind_eq_some_iff.mp H
      obtain ⟨t204, A40, H⟩ := H
      replace H : (if 1 + t204.size ≤ 9223372036854775807 then (some ((⟨#[45]⟩ : ByteArray) ++ t204)) else (none)) = some r := H
      have A4 := Aside0.mk A40
      clear A40
      by_cases c5 : 1 + t204.size ≤ 9223372036854775807
      · rw [if_pos c5] at H
        have c5b0 := eq_true c5
        have c5b1 : decide (1 + t204.size ≤ 9223372036854775807) = true := decide_eq_true c5
        try have c5b2 : (9223372036854775807 < 1 + t204.size) = False := eq_false (Nat.not_lt.2 c5)
        obtain rfl := Option.some.inj H
        go_enter Tryd.func31, Tryd.ntmps31
        go_wp2_with (first | ((with_reducible refine gate_callee (f := 31) rfl ?_); refine goesL_ (some 9) rfl rfl Tryd.func31 (by kernel_rfl) rfl #[.int .i64 (wrap64 (-a0))] rfl (by (try simp only [List.map_toArray, List.map_cons, List.map_nil]); first | done | rfl | (simp only [List.length_drop, List.length_take]; rfl) | (simp [Act.eval, *]; done)) ?_; (with_reducible refine (ih k (by omega) (wrap64 (-a0)) t204 _ A4.out).mono ?_); rintro e w6 ⟨rfl, hb⟩; refine ⟨_, rfl, ?_⟩; have n0_ := Aside0.mk (below_step (by repeat (first | (with_reducible first | exact HB.out | apply below_alloc | apply Go.Proofs.YtohblegfpghejaaDoor.Ext.below_bytes | apply pw_below_drewN | apply below_drew1) | exact HB.out)) hb); clear HB; have HB := n0_; clear n0_; (try clear hb); (try clear hb2); (try clear hk); (try clear hi)))
        go_ret
        exact ⟨by first | rfl | (simp [errW_none, errW_some] <;> rfl) | (simp [*, errW_none, errW_some] <;> rfl), by repeat (first | (with_reducible first | exact HB.out | apply below_alloc | apply Go.Proofs.YtohblegfpghejaaDoor.Ext.below_bytes | apply pw_below_drewN | apply below_drew1) | exact HB.out)⟩
      · rw [if_neg c5] at H
        exact absurd H (by simp)
  · rw [if_neg c2] at H
    have c2b0 : decide (a0 < 0) = false := decide_eq_false c2
    clear c2
    by_cases c7 : a0 < 10
    · rw [if_pos c7] at H
      have c7b0 : decide (a0 < 10) = true := decide_eq_true c7
      clear c7
      obtain ⟨y205, hy205⟩ : ∃ y_ : List Int, y_ = (([(wrap64 (48 + a0)) % 256] : List Int)) := ⟨_, rfl⟩
      replace H : (some (strOfNums y205)) = some r := by first | (rw [hy205]; with_reducible exact H) | (have H2_ := (Option.bind_some _ _).symm.trans H; rw [hy205]; with_reducible exact H2_) | (have H2_ := (Option.bind_some _ _).symm.trans H; with_reducible exact H2_) | with_reducible exact H | (rw [hy205]; exact H) | exact H
      have Ny205 := Aside0.mk hy205
      clear hy205
      obtain rfl := Option.some.inj H
      go_enter Tryd.func31, Tryd.ntmps31
      go_wp2_with (first | ((with_reducible refine gate_dst (N := 16) rfl ?_); refine Kd.R_lit (Kd.int .u8) _ 5 ?hg (N := 16) ?hd (xs := ([(wrap64 (48 + a0)) % 256] : List Int)) (inner := [.int .u8 ((wrap64 (48 + a0)) % 256)]) (ok := fun _ => True) (okp := fun _ => True) ?hr ?hp (fun _ hk => hk) trivial (Below.refl _ _) (Nat.le_refl _) (by simp) ?_; (case hd => rfl); (case hg => rfl); (case hr => first | (go_simp; done) | (go_simp; rfl)); (case hp => exact (Reps.one (show Kd.M (Kd.int .u8) _ _ _ ((wrap64 (48 + a0)) % 256) [.int .u8 ((wrap64 (48 + a0)) % 256)] from rfl) (Reps.none _ _))); intro v206 w8 ho9 hb hg_ hnew_; clear hg_ hnew_; (first | rw [← Ny205.out] at ho9 | (simp only [Int.reduceToNat] at ho9; rw [← Ny205.out] at ho9)); have n0_ := Aside0.mk (Kd.R_lower ho9 (below_size (by repeat (first | (with_reducible first | exact HB.out | apply below_alloc | apply Go.Proofs.YtohblegfpghejaaDoor.Ext.below_bytes | apply pw_below_drewN | apply below_drew1) | exact HB.out)))); have n1_ := Aside0.mk (below_step (by repeat (first | (with_reducible first | exact HB.out | apply below_alloc | apply Go.Proofs.YtohblegfpghejaaDoor.Ext.below_bytes | apply pw_below_drewN | apply below_drew1) | exact HB.out)) hb); clear HB; have HO207 := n0_; have HB := n1_; clear n0_ n1_; clear hb ho9; have hcv10 := own_string (P := Tryd.prog) Tryd.underlying41 Tryd.underlying5 Tryd.underlying9 (Kd.own_of_R HO207.out)))
      go_ret
      exact ⟨by first | rfl | (simp [errW_none, errW_some] <;> rfl) | (simp [*, errW_none, errW_some] <;> rfl), by repeat (first | (with_reducible first | exact HB.out | apply below_alloc | apply Go.Proofs.YtohblegfpghejaaDoor.Ext.below_bytes | apply pw_below_drewN | apply below_drew1) | exact HB.out)⟩
    · rw [if_neg c7] at H
      have c7b0 : decide (a0 < 10) = false := decide_eq_false c7
      clear c7
      replace H := Option.bind_eq_some_iff.mp H
      obtain ⟨t208, A110, H⟩ := H
      replace H : ((spec_Digits.f k (Int.tmod a0 10)).bind fun t209 => (if t208.size + t209.size ≤ 9223372036854775807 then (some (t208 ++ t209)) else (none))) = some r := H
      have A11 := Aside0.mk A110
      clear A110
      replace H := Option.bind_eq_some_iff.mp H
      obtain ⟨t209, A120, H⟩ := H
      replace H : (if t208.size + t209.size ≤ 9223372036854775807 then (some (t208 ++ t209)) else (none)) = some r := H
      have A12 := Aside0.mk A120
      clear A120
      by_cases c13 : t208.size + t209.size ≤ 9223372036854775807
      · rw [if_pos c13] at H
        have c13b0 := eq_true c13
        have c13b1 : decide (t208.size + t209.size ≤ 9223372036854775807) = true := decide_eq_true c13
        try have c13b2 : (9223372036854775807 < t208.size + t209.size) = False := eq_false (Nat.not_lt.2 c13)
        obtain rfl := Option.some.inj H
        go_enter Tryd.func31, Tryd.ntmps31
        go_wp2_with (first | ((with_reducible refine gate_callee (f := 31) rfl ?_); refine goesL_ (some 20) rfl rfl Tryd.func31 (by kernel_rfl) rfl #[.int .i64 (wrap64 (Int.tdiv a0 10))] rfl (by (try simp only [List.map_toArray, List.map_cons, List.map_nil]); first | done | rfl | (simp only [List.length_drop, List.length_take]; rfl) | (simp [Act.eval, *]; done)) ?_; (with_reducible refine (ih k (by omega) (wrap64 (Int.tdiv a0 10)) t208 _ A11.out).mono ?_); rintro e w14 ⟨rfl, hb⟩; refine ⟨_, rfl, ?_⟩; have n0_ := Aside0.mk (below_step (by repeat (first | (with_reducible first | exact HB.out | apply below_alloc | apply Go.Proofs.YtohblegfpghejaaDoor.Ext.below_bytes | apply pw_below_drewN | apply below_drew1) | exact HB.out)) hb); clear HB; have HB := n0_; clear n0_; (try clear hb); (try clear hb2); (try clear hk); (try clear hi)) | ((with_reducible refine gate_callee (f := 31) rfl ?_); refine goesL_ (some 23) rfl rfl Tryd.func31 (by kernel_rfl) rfl #[.int .i64 (Int.tmod a0 10)] rfl (by (try simp only [List.map_toArray, List.map_cons, List.map_nil]); first | done | rfl | (simp only [List.length_drop, List.length_take]; rfl) | (simp [Act.eval, *]; done)) ?_; (with_reducible refine (ih k (by omega) (Int.tmod a0 10) t209 _ A12.out).mono ?_); rintro e w15 ⟨rfl, hb⟩; refine ⟨_, rfl, ?_⟩; have n0_ := Aside0.mk (below_step (by repeat (first | (with_reducible first | exact HB.out | apply below_alloc | apply Go.Proofs.YtohblegfpghejaaDoor.Ext.below_bytes | apply pw_below_drewN | apply below_drew1) | exact HB.out)) hb); clear HB; have HB := n0_; clear n0_; (try clear hb); (try clear hb2); (try clear hk); (try clear hi)))
        go_ret
        exact ⟨by first | rfl | (simp [errW_none, errW_some] <;> rfl) | (simp [*, errW_none, errW_some] <;> rfl), by repeat (first | (with_reducible first | exact HB.out | apply below_alloc | apply Go.Proofs.YtohblegfpghejaaDoor.Ext.below_bytes | apply pw_below_drewN | apply below_drew1) | exact HB.out)⟩
      · rw [if_neg c13] at H
        exact absurd H (by simp)

/-! ### spec_madeCode: function 32 -/
def spec_madeCode.f (a0 : Int) : Option (ByteArray) := if a0 < 128 then (some (strOfNums (([a0] : List Int)))) else (some (strOfNums (([Go.bits .or .u8 192 (a0 / 64), Go.bits .or .u8 128 (Go.bits .and .u8 a0 63)] : List Int))))
set_option maxHeartbeats 8000000 in
set_option maxRecDepth 100000 in
theorem spec_madeCode.calls (a0 : Int) (r : ByteArray) (w : World) (h : spec_madeCode.f a0 = some r) :
    Calls Tryd.prog 32 #[.int .u8 a0] w fun e w' => e = .returned (.string r) ∧ Below w.heap.size w w' := by
  have HB := Aside0.mk (Below.refl w.heap.size w)
  have H : (if a0 < 128 then (some (strOfNums (([a0] : List Int)))) else (some (strOfNums (([Go.bits .or .u8 192 (a0 / 64), Go.bits .or .u8 128 (Go.bits .and .u8 a0 63)] : List Int))))) = some r := h
  clear h
  by_cases c2 : a0 < 128
  · rw [if_pos c2] at H
    have c2b0 : decide (a0 < 128) = true := decide_eq_true c2
    clear c2
    obtain ⟨y210, hy210⟩ : ∃ y_ : List Int, y_ = (([a0] : List Int)) := ⟨_, rfl⟩
    replace H : (some (strOfNums y210)) = some r := by first | (rw [hy210]; with_reducible exact H) | (have H2_ := (Option.bind_some _ _).symm.trans H; rw [hy210]; with_reducible exact H2_) | (have H2_ := (Option.bind_some _ _).symm.trans H; with_reducible exact H2_) | with_reducible exact H | (rw [hy210]; exact H) | exact H
    have Ny210 := Aside0.mk hy210
    clear hy210
    obtain rfl := Option.some.inj H
    go_enter Tryd.func32, Tryd.ntmps32
    go_wp2_with (first | ((with_reducible refine gate_dst (N := 6) rfl ?_); refine Kd.R_lit (Kd.int .u8) _ 5 ?hg (N := 6) ?hd (xs := ([a0] : List Int)) (inner := [.int .u8 a0]) (ok := fun _ => True) (okp := fun _ => True) ?hr ?hp (fun _ hk => hk) trivial (Below.refl _ _) (Nat.le_refl _) (by simp) ?_; (case hd => rfl); (case hg => rfl); (case hr => first | (go_simp; done) | (go_simp; rfl)); (case hp => exact (Reps.one (show Kd.M (Kd.int .u8) _ _ _ a0 [.int .u8 a0] from rfl) (Reps.none _ _))); intro v211 w3 ho4 hb hg_ hnew_; clear hg_ hnew_; (first | rw [← Ny210.out] at ho4 | (simp only [Int.reduceToNat] at ho4; rw [← Ny210.out] at ho4)); have n0_ := Aside0.mk (Kd.R_lower ho4 (below_size (by repeat (first | (with_reducible first | exact HB.out | apply below_alloc | apply Go.Proofs.YtohblegfpghejaaDoor.Ext.below_bytes | apply pw_below_drewN | apply below_drew1) | exact HB.out)))); have n1_ := Aside0.mk (below_step (by repeat (first | (with_reducible first | exact HB.out | apply below_alloc | apply Go.Proofs.YtohblegfpghejaaDoor.Ext.below_bytes | apply pw_below_drewN | apply below_drew1) | exact HB.out)) hb); clear HB; have HO212 := n0_; have HB := n1_; clear n0_ n1_; clear hb ho4; have hcv5 := own_string (P := Tryd.prog) Tryd.underlying41 Tryd.underlying5 Tryd.underlying9 (Kd.own_of_R HO212.out)))
    go_ret
    exact ⟨by first | rfl | (simp [errW_none, errW_some] <;> rfl) | (simp [*, errW_none, errW_some] <;> rfl), by repeat (first | (with_reducible first | exact HB.out | apply below_alloc | apply Go.Proofs.YtohblegfpghejaaDoor.Ext.below_bytes | apply pw_below_drewN | apply below_drew1) | exact HB.out)⟩
  · rw [if_neg c2] at H
    have c2b0 : decide (a0 < 128) = false := decide_eq_false c2
    clear c2
    obtain ⟨y213, hy213⟩ : ∃ y_ : List Int, y_ = (([Go.bits .or .u8 192 (a0 / 64), Go.bits .or .u8 128 (Go.bits .and .u8 a0 63)] : List Int)) := ⟨_, rfl⟩
    replace H : (some (strOfNums y213)) = some r := by first | (rw [hy213]; with_reducible exact H) | (have H2_ := (Option.bind_some _ _).symm.trans H; rw [hy213]; with_reducible exact H2_) | (have H2_ := (Option.bind_some _ _).symm.trans H; with_reducible exact H2_) | with_reducible exact H | (rw [hy213]; exact H) | exact H
    have Ny213 := Aside0.mk hy213
    clear hy213
    obtain rfl := Option.some.inj H
    go_enter Tryd.func32, Tryd.ntmps32
    go_wp2_with (first | ((with_reducible refine gate_dst (N := 14) rfl ?_); refine Kd.R_lit (Kd.int .u8) _ 5 ?hg (N := 14) ?hd (xs := ([Go.bits .or .u8 192 (a0 / 64), Go.bits .or .u8 128 (Go.bits .and .u8 a0 63)] : List Int)) (inner := [.int .u8 (Go.bits .or .u8 192 (a0 / 64)), .int .u8 (Go.bits .or .u8 128 (Go.bits .and .u8 a0 63))]) (ok := fun _ => True) (okp := fun _ => True) ?hr ?hp (fun _ hk => hk) trivial (Below.refl _ _) (Nat.le_refl _) (by simp) ?_; (case hd => rfl); (case hg => rfl); (case hr => first | (go_simp; done) | (go_simp; rfl)); (case hp => exact (Reps.one (show Kd.M (Kd.int .u8) _ _ _ (Go.bits .or .u8 192 (a0 / 64)) [.int .u8 (Go.bits .or .u8 192 (a0 / 64))] from rfl) (Reps.one (show Kd.M (Kd.int .u8) _ _ _ (Go.bits .or .u8 128 (Go.bits .and .u8 a0 63)) [.int .u8 (Go.bits .or .u8 128 (Go.bits .and .u8 a0 63))] from rfl) (Reps.none _ _)))); intro v214 w6 ho7 hb hg_ hnew_; clear hg_ hnew_; (first | rw [← Ny213.out] at ho7 | (simp only [Int.reduceToNat] at ho7; rw [← Ny213.out] at ho7)); have n0_ := Aside0.mk (Kd.R_lower ho7 (below_size (by repeat (first | (with_reducible first | exact HB.out | apply below_alloc | apply Go.Proofs.YtohblegfpghejaaDoor.Ext.below_bytes | apply pw_below_drewN | apply below_drew1) | exact HB.out)))); have n1_ := Aside0.mk (below_step (by repeat (first | (with_reducible first | exact HB.out | apply below_alloc | apply Go.Proofs.YtohblegfpghejaaDoor.Ext.below_bytes | apply pw_below_drewN | apply below_drew1) | exact HB.out)) hb); clear HB; have HO215 := n0_; have HB := n1_; clear n0_ n1_; clear hb ho7; have hcv8 := own_string (P := Tryd.prog) Tryd.underlying41 Tryd.underlying5 Tryd.underlying9 (Kd.own_of_R HO215.out)))
    go_ret
    exact ⟨by first | rfl | (simp [errW_none, errW_some] <;> rfl) | (simp [*, errW_none, errW_some] <;> rfl), by repeat (first | (with_reducible first | exact HB.out | apply below_alloc | apply Go.Proofs.YtohblegfpghejaaDoor.Ext.below_bytes | apply pw_below_drewN | apply below_drew1) | exact HB.out)⟩

-- NOT PRINTED: function 19 (spec_KittyList)

end Go.Proofs.YtohblegfpghejaaDoor.PX
