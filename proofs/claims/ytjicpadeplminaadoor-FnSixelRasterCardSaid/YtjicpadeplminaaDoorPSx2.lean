-- Written by wip/pp.py, a program of this session, out of the translation. Not trusted: Lean checks it.
import Derived.Test.YtjicpadeplminaaDoorPSx0
import Derived.Test.YtjicpadeplminaaDoorPSx1
namespace Go.Proofs.YtjicpadeplminaaDoor.PS
open Go.RowKit Go.Proofs.YtjicpadeplminaaDoor.Or Go.Proofs.YtjicpadeplminaaDoor.Bld Go.Proofs.YtjicpadeplminaaDoorW.PrintWords Go.Proofs.YtjicpadeplminaaDoorW.PrintLast Go.Proofs.YtjicpadeplminaaDoorW.PrintMore
attribute [local go_sem] max2_int min2_int max_two min_two max_three min_three max_four min_four   -- for this text's walks alone
attribute [local go_sem] Go.Proofs.YtjicpadeplminaaDoor.Ext.wrap64_mod256 Go.Proofs.YtjicpadeplminaaDoor.Ext.wrap64_mod32 Go.Proofs.YtjicpadeplminaaDoor.Ext.i64_mod256 Go.Proofs.YtjicpadeplminaaDoor.Ext.i64_mod32 Go.Proofs.YtjicpadeplminaaDoor.Ext.i64_u8 Go.Proofs.YtjicpadeplminaaDoor.Ext.w64_u8 Go.Proofs.YtjicpadeplminaaDoor.Ext.i64_u32 Go.Proofs.YtjicpadeplminaaDoor.Ext.w64_u32 
set_option linter.unusedVariables false
set_option linter.unusedSimpArgs false

/-! ### spec_SixelRaster: function 12 -/
mutual
def spec_SixelRaster.j0 : Nat → Int → Int → Int → Int → Option (ByteArray)
  | 0, _, _, _, _ => none
  | k + 1, x115000, x115001, x115002, x115003 => (spec_SixelNumber.f k x115000).bind fun t115 => (if 1 + t115.size ≤ 9223372036854775807 then (if 1 + t115.size + 1 ≤ 9223372036854775807 then ((spec_SixelNumber.f k x115001).bind fun t116 => (if 1 + t115.size + 1 + t116.size ≤ 9223372036854775807 then (if x115002 > 0 then (spec_SixelRaster.j1 k ((((⟨#[34]⟩ : ByteArray) ++ t115) ++ (⟨#[59]⟩ : ByteArray)) ++ t116) true x115000 x115001 x115002 x115003) else (spec_SixelRaster.j1 k ((((⟨#[34]⟩ : ByteArray) ++ t115) ++ (⟨#[59]⟩ : ByteArray)) ++ t116) (decide (x115003 > 0)) x115000 x115001 x115002 x115003)) else (none))) else (none)) else (none))
def spec_SixelRaster.j1 : Nat → ByteArray → Bool → Int → Int → Int → Int → Option (ByteArray)
  | 0, _, _, _, _, _, _ => none
  | k + 1, x3, x25, x115000, x115001, x115002, x115003 => if x25 = true then ((spec_SixelNumber.f k x115002).bind fun t117 => (if 1 + t117.size ≤ 9223372036854775807 then (if 1 + t117.size + 1 ≤ 9223372036854775807 then ((spec_SixelNumber.f k x115003).bind fun t118 => (if 1 + t117.size + 1 + t118.size ≤ 9223372036854775807 then (if x3.size + (1 + t117.size + 1 + t118.size) ≤ 9223372036854775807 then (some (x3 ++ ((((⟨#[59]⟩ : ByteArray) ++ t117) ++ (⟨#[59]⟩ : ByteArray)) ++ t118))) else (none)) else (none))) else (none)) else (none))) else (some x3)
end
def spec_SixelRaster.f (k : Nat) (a0_0 : Int) (a0_1 : Int) (a0_2 : Int) (a0_3 : Int) : Option (ByteArray) := if a0_1 = 0 then (spec_SixelRaster.j0 k 1 1 a0_2 a0_3) else (spec_SixelRaster.j0 k a0_0 a0_1 a0_2 a0_3)
theorem spec_SixelRaster.mono_l : ∀ k, (∀ y0 y1 y2 y3, LeO (spec_SixelRaster.j0 k y0 y1 y2 y3) (spec_SixelRaster.j0 (k + 1) y0 y1 y2 y3)) ∧ (∀ y0 y1 y2 y3 y4 y5, LeO (spec_SixelRaster.j1 k y0 y1 y2 y3 y4 y5) (spec_SixelRaster.j1 (k + 1) y0 y1 y2 y3 y4 y5))
  | 0 => ⟨fun _ _ _ _ r h => by simp [spec_SixelRaster.j0] at h, fun _ _ _ _ _ _ r h => by simp [spec_SixelRaster.j1] at h⟩
  | k + 1 => by
    obtain ⟨ih0, ih1⟩ := spec_SixelRaster.mono_l k
    refine ⟨?_, ?_⟩
    · intro y0 y1 y2 y3
      unfold spec_SixelRaster.j0
      repeat' first
      | (with_reducible exact ih0 _ _ _ _)
      | (with_reducible exact ih1 _ _ _ _ _ _)
      | (with_reducible exact spec_SixelNumber.mono _ _)
      | (with_reducible exact LeO.refl _)
      | (with_reducible exact LeO.none _)
      | (with_reducible refine LeO.ite ?_ ?_)
      | (with_reducible refine LeO.bind ?_ (fun _ => ?_))
      | exact ih0 _ _ _ _
      | exact ih1 _ _ _ _ _ _
      | exact spec_SixelNumber.mono _ _
      | exact LeO.none _
      | refine LeO.ite ?_ ?_
      | refine LeO.bind ?_ (fun _ => ?_)
    · intro y0 y1 y2 y3 y4 y5
      unfold spec_SixelRaster.j1
      repeat' first
      | (with_reducible exact ih0 _ _ _ _)
      | (with_reducible exact ih1 _ _ _ _ _ _)
      | (with_reducible exact spec_SixelNumber.mono _ _)
      | (with_reducible exact LeO.refl _)
      | (with_reducible exact LeO.none _)
      | (with_reducible refine LeO.ite ?_ ?_)
      | (with_reducible refine LeO.bind ?_ (fun _ => ?_))
      | exact ih0 _ _ _ _
      | exact ih1 _ _ _ _ _ _
      | exact spec_SixelNumber.mono _ _
      | exact LeO.none _
      | refine LeO.ite ?_ ?_
      | refine LeO.bind ?_ (fun _ => ?_)
theorem spec_SixelRaster.mono : ∀ a0 a1 a2 a3 k, LeO (spec_SixelRaster.f k a0 a1 a2 a3) (spec_SixelRaster.f (k + 1) a0 a1 a2 a3) := by
  intro a0 a1 a2 a3 k
  obtain ⟨ih0, ih1⟩ := spec_SixelRaster.mono_l k
  unfold spec_SixelRaster.f
  repeat' first
      | (with_reducible exact ih0 _ _ _ _)
      | (with_reducible exact ih1 _ _ _ _ _ _)
      | (with_reducible exact spec_SixelNumber.mono _ _)
      | (with_reducible exact LeO.refl _)
      | (with_reducible exact LeO.none _)
      | (with_reducible refine LeO.ite ?_ ?_)
      | (with_reducible refine LeO.bind ?_ (fun _ => ?_))
      | exact ih0 _ _ _ _
      | exact ih1 _ _ _ _ _ _
      | exact spec_SixelNumber.mono _ _
      | exact LeO.none _
      | refine LeO.ite ?_ ?_
      | refine LeO.bind ?_ (fun _ => ?_)
def spec_SixelRaster.T3 : Bool × List (List Nat × List Nat) := (true, [([], []), ([0], [0]), ([1], [1]), ([2], [2]), ([3], [3]), ([], []), ([5], [5]), ([6, 2], [6]), ([4, 7], [4, 7]), ([8, 7, 0, 1, 2, 3, 4, 5, 6, 7, 8], [8])])
def spec_SixelRaster.B3 : List Nat := [0, 1, 3, 7, 15, 0, 32, 103, 255, 511]
theorem spec_SixelRaster.tab3 : rtab .any (opsOf Tryd.f12 3) = spec_SixelRaster.T3 := by kernel_rfl
theorem spec_SixelRaster.bits3 : waitsOk spec_SixelRaster.T3.2 spec_SixelRaster.B3 = true := by kernel_rfl
def spec_SixelRaster.T5 : Bool × List (List Nat × List Nat) := (true, [([], []), ([], []), ([1], [1]), ([2], [2]), ([3], [3]), ([4], [4]), ([], []), ([6], [6]), ([7, 3], [7]), ([5, 8], [5, 8]), ([0, 9], [0, 9]), ([10, 8, 0, 1, 2, 3, 4, 5, 6, 7, 8, 9, 10], [0, 10])])
def spec_SixelRaster.B5 : List Nat := [0, 0, 2, 6, 14, 30, 0, 64, 206, 510, 1023, 2047]
theorem spec_SixelRaster.tab5 : rtab .any (opsOf Tryd.f12 5) = spec_SixelRaster.T5 := by kernel_rfl
theorem spec_SixelRaster.bits5 : waitsOk spec_SixelRaster.T5.2 spec_SixelRaster.B5 = true := by kernel_rfl
set_option maxHeartbeats 8000000 in
set_option maxRecDepth 100000 in
theorem spec_SixelRaster.calls (k : Nat) (a0_0 : Int) (a0_1 : Int) (a0_2 : Int) (a0_3 : Int) (r : ByteArray) (w : World) (h : spec_SixelRaster.f k a0_0 a0_1 a0_2 a0_3 = some r) :
    Calls Tryd.prog 12 #[.agg #[.int .i64 a0_0, .int .i64 a0_1, .int .i64 a0_2, .int .i64 a0_3]] w fun e w' => e = .returned (.string r) ∧ Below w.heap.size w w' := by
  have hu35 := Tryd.underlying35
  have ia_35_0 : ∀ (b_ : Nat) (w_ : World), (Instr.indexAt 35 (.pointer (some ⟨b_, 0, none⟩)) (.int .i64 0)).run Tryd.prog w_ = .ok (.pointer (some ⟨b_, 0, none⟩)) w_ := fun b_ w_ => by kernel_rfl
  have ia_35_1 : ∀ (b_ : Nat) (w_ : World), (Instr.indexAt 35 (.pointer (some ⟨b_, 0, none⟩)) (.int .i64 1)).run Tryd.prog w_ = .ok (.pointer (some ⟨b_, 1, none⟩)) w_ := fun b_ w_ => by kernel_rfl
  have ia_35_2 : ∀ (b_ : Nat) (w_ : World), (Instr.indexAt 35 (.pointer (some ⟨b_, 0, none⟩)) (.int .i64 2)).run Tryd.prog w_ = .ok (.pointer (some ⟨b_, 2, none⟩)) w_ := fun b_ w_ => by kernel_rfl
  have ia_35_3 : ∀ (b_ : Nat) (w_ : World), (Instr.indexAt 35 (.pointer (some ⟨b_, 0, none⟩)) (.int .i64 3)).run Tryd.prog w_ = .ok (.pointer (some ⟨b_, 3, none⟩)) w_ := fun b_ w_ => by kernel_rfl
  have HB := Aside0.mk (Below.refl w.heap.size w)
  have H : (if a0_1 = 0 then (spec_SixelRaster.j0 k 1 1 a0_2 a0_3) else (spec_SixelRaster.j0 k a0_0 a0_1 a0_2 a0_3)) = some r := h
  clear h
  have HC2 := Aside0.mk H
  clear H
  go_enter Tryd.func12, Tryd.ntmps12
  go_upto_if 6 with (first | ((with_reducible refine gate_dst (N := 1) rfl ?_); refine box_event ?hg (N := 1) ?hd (cs := #[.int .i64 a0_0, .int .i64 a0_1, .int .i64 a0_2, .int .i64 a0_3]) (t := 35) ?hr ?_; (case hd => rfl); (case hg => rfl); (case hr => first | (go_simp; done) | (go_simp; rfl)); intro gb114 hg w3 hbox hb; have n0_ := Aside0.mk (below_step (by repeat (first | (with_reducible first | exact HB.out | apply below_alloc | apply Go.Proofs.YtjicpadeplminaaDoor.Ext.below_bytes | apply pw_below_drewN | apply below_drew1) | exact HB.out)) hb); have n1_ := Aside0.mk (hbox); have n2_ := Aside0.mk ((by rw [hg]; exact (below_size (by repeat (first | (with_reducible first | exact HB.out | apply below_alloc | apply Go.Proofs.YtjicpadeplminaaDoor.Ext.below_bytes | apply pw_below_drewN | apply below_drew1) | exact HB.out))) : w.heap.size ≤ gb114)); have n3_ := Aside0.mk ((by rw [hg]; exact (below_size (by repeat (first | (with_reducible first | exact HB.out | apply below_alloc | apply Go.Proofs.YtjicpadeplminaaDoor.Ext.below_bytes | apply pw_below_drewN | apply below_drew1) | exact HB.out))) : w.heap.size ≤ gb114)); clear HB; have HB := n0_; have BK114 := n1_; have GW114 := n2_; have GE114 := n3_; clear n0_ n1_ n2_ n3_; clear hb hbox hg; have hcz4_0 : w3.cell? ⟨gb114, 0, none⟩ = some (.int .i64 a0_0) := (blk_cell BK114.out 0).trans rfl; have hcz4_1 : w3.cell? ⟨gb114, 1, none⟩ = some (.int .i64 a0_1) := (blk_cell BK114.out 1).trans rfl; have hcz4_2 : w3.cell? ⟨gb114, 2, none⟩ = some (.int .i64 a0_2) := (blk_cell BK114.out 2).trans rfl; have hcz4_3 : w3.cell? ⟨gb114, 3, none⟩ = some (.int .i64 a0_3) := (blk_cell BK114.out 3).trans rfl; have hfz4_0 := blk_frozen BK114.out 0; have hfz4_1 := blk_frozen BK114.out 1; have hfz4_2 := blk_frozen BK114.out 2; have hfz4_3 := blk_frozen BK114.out 3))
  (try simp only [Act.put, List.setIfInBounds_toArray, List.set_cons_zero, List.set_cons_succ])
  go_cut [] (fun wc => ∃ (kq : Nat) (x115000_1 : Int) (x115001_1 : Int) (x115002_1 : Int) (x115003_1 : Int), Aside0 (spec_SixelRaster.j0 kq x115000_1 x115001_1 x115002_1 x115003_1 = some r) ∧ Aside0 (kq ≤ k) ∧ Aside0 (wc.heap[gb114]? = some (.cells #[.int .i64 x115000_1, .int .i64 x115001_1, .int .i64 x115002_1, .int .i64 x115003_1] 35 (0, 0))) ∧ Aside0 (Below w.heap.size w wc))
  case first =>
    have H := HC2.out
    clear HC2
    by_cases c5 : a0_1 = 0
    · rw [if_pos c5] at H
      have c5b0 : (a0_1 == 0) = true := beq_iff_eq.mpr c5
      have c5b1 : (a0_1 != 0) = false := bne_eq_false_iff_eq.mpr c5
      clear c5
      (first | rw [c5b0] | (simp only [i64_w, i32_w]; rw [c5b0]) | skip)
      have H' := Aside0.mk H
      clear H
      have hcz6_0 : w3.cell? ⟨gb114, 0, none⟩ = some (.int .i64 a0_0) := (blk_cell BK114.out 0).trans rfl
      have hcz6_1 : w3.cell? ⟨gb114, 1, none⟩ = some (.int .i64 a0_1) := (blk_cell BK114.out 1).trans rfl
      have hcz6_2 : w3.cell? ⟨gb114, 2, none⟩ = some (.int .i64 a0_2) := (blk_cell BK114.out 2).trans rfl
      have hcz6_3 : w3.cell? ⟨gb114, 3, none⟩ = some (.int .i64 a0_3) := (blk_cell BK114.out 3).trans rfl
      have hfz6_0 := blk_frozen BK114.out 0
      have hfz6_1 := blk_frozen BK114.out 1
      have hfz6_2 := blk_frozen BK114.out 2
      have hfz6_3 := blk_frozen BK114.out 3
      go_wp2
      go_meet
      case rel => exact ⟨_, (1), (1), (a0_2), (a0_3), H', ⟨by first | omega | exact Nat.le_refl _⟩, ⟨by (with_reducible repeat (first | refine blk_drewN ?_ _ | refine blk_drew ?_ | refine blk_alloc ?_ _)); refine blk_put (cs := #[.int .i64 1, .int .i64 a0_1, .int .i64 a0_2, .int .i64 a0_3]) ?_ 1 _ rfl; (with_reducible repeat (first | refine blk_drewN ?_ _ | refine blk_drew ?_ | refine blk_alloc ?_ _)); refine blk_put (cs := #[.int .i64 a0_0, .int .i64 a0_1, .int .i64 a0_2, .int .i64 a0_3]) ?_ 0 _ rfl; (with_reducible repeat (first | refine blk_drewN ?_ _ | refine blk_drew ?_ | refine blk_alloc ?_ _)); exact BK114.out⟩, ⟨by repeat (first | (with_reducible first | exact HB.out | apply below_alloc | apply Go.Proofs.YtjicpadeplminaaDoor.Ext.below_bytes | apply pw_below_drewN | apply below_drew1 | refine below_set ?_ GE114.out) | exact HB.out)⟩⟩
    · rw [if_neg c5] at H
      have c5b0 : (a0_1 == 0) = false := beq_eq_false_iff_ne.mpr c5
      have c5b1 : (a0_1 != 0) = true := bne_iff_ne.mpr c5
      (first | rw [c5b0] | (simp only [i64_w, i32_w]; rw [c5b0]) | skip)
      have H' := Aside0.mk H
      clear H
      go_wp2
      go_meet
      case rel => exact ⟨_, (a0_0), (a0_1), (a0_2), (a0_3), H', ⟨by first | omega | exact Nat.le_refl _⟩, ⟨by (with_reducible repeat (first | refine blk_drewN ?_ _ | refine blk_drew ?_ | refine blk_alloc ?_ _)); exact BK114.out⟩, ⟨by repeat (first | (with_reducible first | exact HB.out | apply below_alloc | apply Go.Proofs.YtjicpadeplminaaDoor.Ext.below_bytes | apply pw_below_drewN | apply below_drew1 | refine below_set ?_ GE114.out) | exact HB.out)⟩⟩
  case rest =>
    clear HC2
    try clear c1
    try clear p2
    try clear c5
    try clear c5b0
    try clear c5b1
    try clear hcz4_0
    try clear hcz4_1
    try clear hcz4_2
    try clear hcz4_3
    try clear hcz6_0
    try clear hcz6_1
    try clear hcz6_2
    try clear hcz6_3
    try clear hfz4_0
    try clear hfz4_1
    try clear hfz4_2
    try clear hfz4_3
    try clear hfz6_0
    try clear hfz6_1
    try clear hfz6_2
    try clear hfz6_3
    obtain ⟨kq, x115000_1, x115001_1, x115002_1, x115003_1, HA, HJ1, BK114, HB⟩ := hcut
    cases kq with
    | zero => exact absurd HA.out (by simp [spec_SixelRaster.j0])
    | succ kj1 =>
      have H := HA.out
      clear HA
      simp only [spec_SixelRaster.j0] at H
      replace H := Option.bind_eq_some_iff.mp H
      obtain ⟨t115, A70, H⟩ := H
      replace H : (if 1 + t115.size ≤ 9223372036854775807 then (if 1 + t115.size + 1 ≤ 9223372036854775807 then ((spec_SixelNumber.f kj1 x115001_1).bind fun t116 => (if 1 + t115.size + 1 + t116.size ≤ 9223372036854775807 then (if x115002_1 > 0 then (spec_SixelRaster.j1 kj1 ((((⟨#[34]⟩ : ByteArray) ++ t115) ++ (⟨#[59]⟩ : ByteArray)) ++ t116) true x115000_1 x115001_1 x115002_1 x115003_1) else (spec_SixelRaster.j1 kj1 ((((⟨#[34]⟩ : ByteArray) ++ t115) ++ (⟨#[59]⟩ : ByteArray)) ++ t116) (decide (x115003_1 > 0)) x115000_1 x115001_1 x115002_1 x115003_1)) else (none))) else (none)) else (none)) = some r := H
      have A7 := Aside0.mk A70
      clear A70
      by_cases c8 : 1 + t115.size ≤ 9223372036854775807
      · rw [if_pos c8] at H
        have c8b0 := eq_true c8
        have c8b1 : decide (1 + t115.size ≤ 9223372036854775807) = true := decide_eq_true c8
        try have c8b2 : (9223372036854775807 < 1 + t115.size) = False := eq_false (Nat.not_lt.2 c8)
        by_cases c9 : 1 + t115.size + 1 ≤ 9223372036854775807
        · rw [if_pos c9] at H
          have c9b0 := eq_true c9
          have c9b1 : decide (1 + t115.size + 1 ≤ 9223372036854775807) = true := decide_eq_true c9
          try have c9b2 : (9223372036854775807 < 1 + t115.size + 1) = False := eq_false (Nat.not_lt.2 c9)
          replace H := Option.bind_eq_some_iff.mp H
          obtain ⟨t116, A100, H⟩ := H
          replace H : (if 1 + t115.size + 1 + t116.size ≤ 9223372036854775807 then (if x115002_1 > 0 then (spec_SixelRaster.j1 kj1 ((((⟨#[34]⟩ : ByteArray) ++ t115) ++ (⟨#[59]⟩ : ByteArray)) ++ t116) true x115000_1 x115001_1 x115002_1 x115003_1) else (spec_SixelRaster.j1 kj1 ((((⟨#[34]⟩ : ByteArray) ++ t115) ++ (⟨#[59]⟩ : ByteArray)) ++ t116) (decide (x115003_1 > 0)) x115000_1 x115001_1 x115002_1 x115003_1)) else (none)) = some r := H
          have A10 := Aside0.mk A100
          clear A100
          by_cases c11 : 1 + t115.size + 1 + t116.size ≤ 9223372036854775807
          · rw [if_pos c11] at H
            have c11b0 := eq_true c11
            have c11b1 : decide (1 + t115.size + 1 + t116.size ≤ 9223372036854775807) = true := decide_eq_true c11
            try have c11b2 : (9223372036854775807 < 1 + t115.size + 1 + t116.size) = False := eq_false (Nat.not_lt.2 c11)
            have HC12 := Aside0.mk H
            clear H
            try go_wp2
            have n0_ := Aside0.mk (blk_drew BK114.out)
            have n1_ := Aside0.mk (below_drew1 HB.out)
            clear BK114
            clear HB
            have BK114 := n0_
            have HB := n1_
            clear n0_ n1_
            refine start_ (n := 10) (S := fun w' => w'.cell? ⟨gb114, 0, none⟩ = some (.int .i64 x115000_1) ∧ w'.cell? ⟨gb114, 1, none⟩ = some (.int .i64 x115001_1) ∧ w'.cell? ⟨gb114, 2, none⟩ = some (.int .i64 x115002_1) ∧ w'.cell? ⟨gb114, 3, none⟩ = some (.int .i64 x115003_1)) (ds := []) #[false, false, false, false, false, false, false, false, false, false] (by kernel_rfl) rfl rfl ⟨(blk_cell BK114.out 0).trans rfl, (blk_cell BK114.out 1).trans rfl, (blk_cell BK114.out 2).trans rfl, (blk_cell BK114.out 3).trans rfl⟩ (fun hHeld => ?_); refine with_tabW spec_SixelRaster.tab3 spec_SixelRaster.bits3 (fun HT_ HW_ => ?_)
            generalize wc.drew = w13 at BK114 HB hHeld ⊢
            refine pure_ (i := 0) (N := some 9) (v := ?_) (a' := ?_) #[true, false, false, false, false, false, false, false, false, false] rfl rfl (any_of HT_.out (by kernel_rfl)) (fun _ _ _ h => h) (Or.inl ⟨by rfl, ?_⟩) ?_ ?_
            rotate_left
            · intro w'
              go_simp
              with_reducible rfl
            rotate_left
            · simp only [Act.put, List.setIfInBounds_toArray, List.set_cons_zero, List.set_cons_succ, i64_w, i32_w]
              rfl
            refine pure_ (i := 5) (N := some 14) (v := ?_) (a' := ?_) #[true, false, false, false, false, true, false, false, false, false] rfl rfl (any_of HT_.out (by kernel_rfl)) (fun _ _ _ h => h) (Or.inl ⟨by rfl, ?_⟩) ?_ ?_
            rotate_left
            · intro w'
              go_simp
              with_reducible rfl
            rotate_left
            · simp only [Act.put, List.setIfInBounds_toArray, List.set_cons_zero, List.set_cons_succ, i64_w, i32_w]
              rfl
            refine take_ (i := 1) (N := some 10) (v := ?_) (a' := ?_) #[true, true, false, false, false, true, false, false, false, false] rfl rfl (take_ofW HT_.out HW_.out (by kernel_rfl)) (fun _ _ _ h => h) (Or.inl ⟨by rfl, ?_⟩) hHeld ?_ ?_
            rotate_left
            · rintro w' ⟨s0, s1, s2, s3⟩
              go_simp
              with_reducible rfl
            rotate_left
            · simp only [Act.put, List.setIfInBounds_toArray, List.set_cons_zero, List.set_cons_succ, i64_w, i32_w]
              rfl
            refine take_ (i := 6) (N := some 15) (v := ?_) (a' := ?_) #[true, true, false, false, false, true, true, false, false, false] rfl rfl (take_ofW HT_.out HW_.out (by kernel_rfl)) (fun _ _ _ h => h) (Or.inl ⟨by rfl, ?_⟩) hHeld ?_ ?_
            rotate_left
            · rintro w' ⟨s0, s1, s2, s3⟩
              go_simp
              with_reducible rfl
            rotate_left
            · simp only [Act.put, List.setIfInBounds_toArray, List.set_cons_zero, List.set_cons_succ, i64_w, i32_w]
              rfl
            refine one_ (i := 2) (N := some 11) #[true, true, true, false, false, true, true, false, false, false] rfl rfl (one_of HT_.out (by kernel_rfl)) (by decide) (fun K hK => ?_)
            refine goes_ Tryd.func10 (by kernel_rfl) rfl #[.int .i64 x115000_1] (by rfl) rfl rfl (by (try simp only [List.map_toArray, List.map_cons, List.map_nil]); first | done | rfl | (simp only [List.length_drop, List.length_take]; rfl) | (simp [Act.eval, *]; done) | (simp [Act.eval, *]; unfold wrap64; omega)) ?_
            with_reducible refine (spec_SixelNumber.calls kj1 x115000_1 t115 _ A7.out).mono ?_
            rintro e w14 ⟨rfl, hb⟩
            refine ⟨_, rfl, ?_⟩
            have n0_ := Aside0.mk (blk_below (g := gb114) (o := .cells #[.int .i64 x115000_1, .int .i64 x115001_1, .int .i64 x115002_1, .int .i64 x115003_1] 35 (0, 0)) (by (with_reducible repeat (first | refine blk_drewN ?_ _ | refine blk_drew ?_ | refine blk_alloc ?_ _)); exact BK114.out) hb)
            have n1_ := Aside0.mk (below_step (by repeat (first | (with_reducible first | exact HB.out | apply below_alloc | apply Go.Proofs.YtjicpadeplminaaDoor.Ext.below_bytes | apply pw_below_drewN | apply below_drew1 | refine below_set ?_ GE114.out) | exact HB.out)) hb)
            clear BK114
            clear HB
            have BK114 := n0_
            have HB := n1_
            clear n0_ n1_
            (try clear hb)
            (try clear hb2)
            (try clear hk)
            (try clear hi)
            refine hK.out _ _ ⟨(blk_cell BK114.out 0).trans rfl, (blk_cell BK114.out 1).trans rfl, (blk_cell BK114.out 2).trans rfl, (blk_cell BK114.out 3).trans rfl⟩ (fun hHeld => ?_)
            clear hK K
            refine norm_ (a' := ?_) ?_ ?_
            rotate_left
            · show Act.put _ (some 11) _ = _
              simp only [Act.put, List.setIfInBounds_toArray, List.set_cons_zero, List.set_cons_succ, i64_w, i32_w]
              rfl
            refine pure_ (i := 3) (N := some 12) (v := ?_) (a' := ?_) #[true, true, true, true, false, true, true, false, false, false] rfl rfl (any_of HT_.out (by kernel_rfl)) (fun _ _ _ h => h) (Or.inl ⟨by rfl, ?_⟩) ?_ ?_
            rotate_left
            · intro w'
              go_simp
              with_reducible rfl
            rotate_left
            · simp only [Act.put, List.setIfInBounds_toArray, List.set_cons_zero, List.set_cons_succ, i64_w, i32_w]
              rfl
            refine pure_ (i := 4) (N := some 13) (v := ?_) (a' := ?_) #[true, true, true, true, true, true, true, false, false, false] rfl rfl (any_of HT_.out (by kernel_rfl)) (fun _ _ _ h => h) (Or.inl ⟨by rfl, ?_⟩) ?_ ?_
            rotate_left
            · intro w'
              go_simp
              with_reducible rfl
            rotate_left
            · simp only [Act.put, List.setIfInBounds_toArray, List.set_cons_zero, List.set_cons_succ, i64_w, i32_w]
              rfl
            refine one_ (i := 7) (N := some 16) #[true, true, true, true, true, true, true, true, false, false] rfl rfl (one_of HT_.out (by kernel_rfl)) (by decide) (fun K hK => ?_)
            refine goes_ Tryd.func10 (by kernel_rfl) rfl #[.int .i64 x115001_1] (by rfl) rfl rfl (by (try simp only [List.map_toArray, List.map_cons, List.map_nil]); first | done | rfl | (simp only [List.length_drop, List.length_take]; rfl) | (simp [Act.eval, *]; done) | (simp [Act.eval, *]; unfold wrap64; omega)) ?_
            with_reducible refine (spec_SixelNumber.calls kj1 x115001_1 t116 _ A10.out).mono ?_
            rintro e w15 ⟨rfl, hb⟩
            refine ⟨_, rfl, ?_⟩
            have n0_ := Aside0.mk (blk_below (g := gb114) (o := .cells #[.int .i64 x115000_1, .int .i64 x115001_1, .int .i64 x115002_1, .int .i64 x115003_1] 35 (0, 0)) (by (with_reducible repeat (first | refine blk_drewN ?_ _ | refine blk_drew ?_ | refine blk_alloc ?_ _)); exact BK114.out) hb)
            have n1_ := Aside0.mk (below_step (by repeat (first | (with_reducible first | exact HB.out | apply below_alloc | apply Go.Proofs.YtjicpadeplminaaDoor.Ext.below_bytes | apply pw_below_drewN | apply below_drew1 | refine below_set ?_ GE114.out) | exact HB.out)) hb)
            clear BK114
            clear HB
            have BK114 := n0_
            have HB := n1_
            clear n0_ n1_
            (try clear hb)
            (try clear hb2)
            (try clear hk)
            (try clear hi)
            refine hK.out _ _ ⟨(blk_cell BK114.out 0).trans rfl, (blk_cell BK114.out 1).trans rfl, (blk_cell BK114.out 2).trans rfl, (blk_cell BK114.out 3).trans rfl⟩ (fun hHeld => ?_)
            clear hK K
            refine norm_ (a' := ?_) ?_ ?_
            rotate_left
            · show Act.put _ (some 16) _ = _
              simp only [Act.put, List.setIfInBounds_toArray, List.set_cons_zero, List.set_cons_succ, i64_w, i32_w]
              rfl
            refine pure_ (i := 8) (N := some 17) (v := ?_) (a' := ?_) #[true, true, true, true, true, true, true, true, true, false] rfl rfl (any_of HT_.out (by kernel_rfl)) (fun _ _ _ h => h) (Or.inl ⟨by rfl, ?_⟩) ?_ ?_
            rotate_left
            · intro w'
              go_simp
              with_reducible rfl
            rotate_left
            · simp only [Act.put, List.setIfInBounds_toArray, List.set_cons_zero, List.set_cons_succ, i64_w, i32_w]
              rfl
            refine pure_ (i := 9) (N := some 3) (v := ?_) (a' := ?_) #[true, true, true, true, true, true, true, true, true, true] rfl rfl (any_of HT_.out (by kernel_rfl)) (fun _ _ _ h => h) (Or.inl ⟨by rfl, ?_⟩) ?_ ?_
            rotate_left
            · intro w'
              go_simp
              with_reducible rfl
            rotate_left
            · simp only [Act.put, List.setIfInBounds_toArray, List.set_cons_zero, List.set_cons_succ, i64_w, i32_w]
              rfl
            refine done_ (done_of HT_.out (by kernel_rfl)) ?_
            go_upto_region 4 with (fail)
            go_cut [25] (fun v25 wc => ∃ (kq : Nat) (x25_11 : Bool), v25 = .bool x25_11 ∧ Aside0 (spec_SixelRaster.j1 kq ((((⟨#[34]⟩ : ByteArray) ++ t115) ++ (⟨#[59]⟩ : ByteArray)) ++ t116) x25_11 x115000_1 x115001_1 x115002_1 x115003_1 = some r) ∧ Aside0 (kq ≤ kj1) ∧ Aside0 (wc.heap[gb114]? = some (.cells #[.int .i64 x115000_1, .int .i64 x115001_1, .int .i64 x115002_1, .int .i64 x115003_1] 35 (0, 0))) ∧ Aside0 (Below w.heap.size w wc))
            case first =>
              have H := HC12.out
              clear HC12
              by_cases c16 : x115002_1 > 0
              · rw [if_pos c16] at H
                have c16b0 : decide (0 < x115002_1) = true := decide_eq_true c16
                clear c16
                (first | rw [c16b0] | (simp only [i64_w, i32_w]; rw [c16b0]) | skip)
                have H' := Aside0.mk H
                clear H
                have hcz17_0 : w15.cell? ⟨gb114, 0, none⟩ = some (.int .i64 x115000_1) := (blk_cell BK114.out 0).trans rfl
                have hcz17_1 : w15.cell? ⟨gb114, 1, none⟩ = some (.int .i64 x115001_1) := (blk_cell BK114.out 1).trans rfl
                have hcz17_2 : w15.cell? ⟨gb114, 2, none⟩ = some (.int .i64 x115002_1) := (blk_cell BK114.out 2).trans rfl
                have hcz17_3 : w15.cell? ⟨gb114, 3, none⟩ = some (.int .i64 x115003_1) := (blk_cell BK114.out 3).trans rfl
                have hfz17_0 := blk_frozen BK114.out 0
                have hfz17_1 := blk_frozen BK114.out 1
                have hfz17_2 := blk_frozen BK114.out 2
                have hfz17_3 := blk_frozen BK114.out 3
                go_wp2
                go_meet
                case rel => exact ⟨_, (true), (by first | rfl | (simp; done) | (simp [*]; done)), H', ⟨by have := HJ1.out; first | omega | exact Nat.le_refl _⟩, ⟨by (with_reducible repeat (first | refine blk_drewN ?_ _ | refine blk_drew ?_ | refine blk_alloc ?_ _)); exact BK114.out⟩, ⟨by repeat (first | (with_reducible first | exact HB.out | apply below_alloc | apply Go.Proofs.YtjicpadeplminaaDoor.Ext.below_bytes | apply pw_below_drewN | apply below_drew1 | refine below_set ?_ GE114.out) | exact HB.out)⟩⟩
              · rw [if_neg c16] at H
                have c16b0 : decide (0 < x115002_1) = false := decide_eq_false c16
                clear c16
                (first | rw [c16b0] | (simp only [i64_w, i32_w]; rw [c16b0]) | skip)
                have H' := Aside0.mk H
                clear H
                have hcz18_0 : w15.cell? ⟨gb114, 0, none⟩ = some (.int .i64 x115000_1) := (blk_cell BK114.out 0).trans rfl
                have hcz18_1 : w15.cell? ⟨gb114, 1, none⟩ = some (.int .i64 x115001_1) := (blk_cell BK114.out 1).trans rfl
                have hcz18_2 : w15.cell? ⟨gb114, 2, none⟩ = some (.int .i64 x115002_1) := (blk_cell BK114.out 2).trans rfl
                have hcz18_3 : w15.cell? ⟨gb114, 3, none⟩ = some (.int .i64 x115003_1) := (blk_cell BK114.out 3).trans rfl
                have hfz18_0 := blk_frozen BK114.out 0
                have hfz18_1 := blk_frozen BK114.out 1
                have hfz18_2 := blk_frozen BK114.out 2
                have hfz18_3 := blk_frozen BK114.out 3
                go_wp2
                go_meet
                case rel => exact ⟨_, (decide (x115003_1 > 0)), (by first | rfl | (simp; done) | (simp [*]; done)), H', ⟨by have := HJ1.out; first | omega | exact Nat.le_refl _⟩, ⟨by (with_reducible repeat (first | refine blk_drewN ?_ _ | refine blk_drew ?_ | refine blk_alloc ?_ _)); exact BK114.out⟩, ⟨by repeat (first | (with_reducible first | exact HB.out | apply below_alloc | apply Go.Proofs.YtjicpadeplminaaDoor.Ext.below_bytes | apply pw_below_drewN | apply below_drew1 | refine below_set ?_ GE114.out) | exact HB.out)⟩⟩
            case rest =>
              clear HC12
              try clear c1
              try clear p2
              try clear c5
              try clear c5b0
              try clear c5b1
              try clear p6
              try clear c8
              try clear c8b0
              try clear c8b1
              try clear c8b2
              try clear c9
              try clear c9b0
              try clear c9b1
              try clear c9b2
              try clear c10
              try clear c11
              try clear c11b0
              try clear c11b1
              try clear c11b2
              try clear c12
              try clear c16
              try clear c16b0
              try clear hcz17_0
              try clear hcz17_1
              try clear hcz17_2
              try clear hcz17_3
              try clear hcz18_0
              try clear hcz18_1
              try clear hcz18_2
              try clear hcz18_3
              try clear hcz4_0
              try clear hcz4_1
              try clear hcz4_2
              try clear hcz4_3
              try clear hcz6_0
              try clear hcz6_1
              try clear hcz6_2
              try clear hcz6_3
              try clear hfz17_0
              try clear hfz17_1
              try clear hfz17_2
              try clear hfz17_3
              try clear hfz18_0
              try clear hfz18_1
              try clear hfz18_2
              try clear hfz18_3
              try clear hfz4_0
              try clear hfz4_1
              try clear hfz4_2
              try clear hfz4_3
              try clear hfz6_0
              try clear hfz6_1
              try clear hfz6_2
              try clear hfz6_3
              try clear p2
              obtain ⟨kq, x25_11, rfl, HA, HJ11, BK114, HB⟩ := hcut
              cases kq with
              | zero => exact absurd HA.out (by simp [spec_SixelRaster.j1])
              | succ kj11 =>
                have H := HA.out
                clear HA
                simp only [spec_SixelRaster.j1] at H
                by_cases c19 : x25_11 = true
                · subst c19
                  have H1 : ((spec_SixelNumber.f kj11 x115002_1).bind fun t117 => (if 1 + t117.size ≤ 9223372036854775807 then (if 1 + t117.size + 1 ≤ 9223372036854775807 then ((spec_SixelNumber.f kj11 x115003_1).bind fun t118 => (if 1 + t117.size + 1 + t118.size ≤ 9223372036854775807 then (if ((((⟨#[34]⟩ : ByteArray) ++ t115) ++ (⟨#[59]⟩ : ByteArray)) ++ t116).size + (1 + t117.size + 1 + t118.size) ≤ 9223372036854775807 then (some (((((⟨#[34]⟩ : ByteArray) ++ t115) ++ (⟨#[59]⟩ : ByteArray)) ++ t116) ++ ((((⟨#[59]⟩ : ByteArray) ++ t117) ++ (⟨#[59]⟩ : ByteArray)) ++ t118))) else (none)) else (none))) else (none)) else (none))) = some r := by rw [if_pos rfl] at H; exact H
                  clear H
                  have H := H1
                  clear H1
                  replace H := Option.bind_eq_some_iff.mp H
                  obtain ⟨t117, A200, H⟩ := H
                  replace H : (if 1 + t117.size ≤ 9223372036854775807 then (if 1 + t117.size + 1 ≤ 9223372036854775807 then ((spec_SixelNumber.f kj11 x115003_1).bind fun t118 => (if 1 + t117.size + 1 + t118.size ≤ 9223372036854775807 then (if ((((⟨#[34]⟩ : ByteArray) ++ t115) ++ (⟨#[59]⟩ : ByteArray)) ++ t116).size + (1 + t117.size + 1 + t118.size) ≤ 9223372036854775807 then (some (((((⟨#[34]⟩ : ByteArray) ++ t115) ++ (⟨#[59]⟩ : ByteArray)) ++ t116) ++ ((((⟨#[59]⟩ : ByteArray) ++ t117) ++ (⟨#[59]⟩ : ByteArray)) ++ t118))) else (none)) else (none))) else (none)) else (none)) = some r := H
                  have A20 := Aside0.mk A200
                  clear A200
                  by_cases c21 : 1 + t117.size ≤ 9223372036854775807
                  · rw [if_pos c21] at H
                    have c21b0 := eq_true c21
                    have c21b1 : decide (1 + t117.size ≤ 9223372036854775807) = true := decide_eq_true c21
                    try have c21b2 : (9223372036854775807 < 1 + t117.size) = False := eq_false (Nat.not_lt.2 c21)
                    by_cases c22 : 1 + t117.size + 1 ≤ 9223372036854775807
                    · rw [if_pos c22] at H
                      have c22b0 := eq_true c22
                      have c22b1 : decide (1 + t117.size + 1 ≤ 9223372036854775807) = true := decide_eq_true c22
                      try have c22b2 : (9223372036854775807 < 1 + t117.size + 1) = False := eq_false (Nat.not_lt.2 c22)
                      replace H := Option.bind_eq_some_iff.mp H
                      obtain ⟨t118, A230, H⟩ := H
                      replace H : (if 1 + t117.size + 1 + t118.size ≤ 9223372036854775807 then (if ((((⟨#[34]⟩ : ByteArray) ++ t115) ++ (⟨#[59]⟩ : ByteArray)) ++ t116).size + (1 + t117.size + 1 + t118.size) ≤ 9223372036854775807 then (some (((((⟨#[34]⟩ : ByteArray) ++ t115) ++ (⟨#[59]⟩ : ByteArray)) ++ t116) ++ ((((⟨#[59]⟩ : ByteArray) ++ t117) ++ (⟨#[59]⟩ : ByteArray)) ++ t118))) else (none)) else (none)) = some r := H
                      have A23 := Aside0.mk A230
                      clear A230
                      by_cases c24 : 1 + t117.size + 1 + t118.size ≤ 9223372036854775807
                      · rw [if_pos c24] at H
                        have c24b0 := eq_true c24
                        have c24b1 : decide (1 + t117.size + 1 + t118.size ≤ 9223372036854775807) = true := decide_eq_true c24
                        try have c24b2 : (9223372036854775807 < 1 + t117.size + 1 + t118.size) = False := eq_false (Nat.not_lt.2 c24)
                        by_cases c25 : ((((⟨#[34]⟩ : ByteArray) ++ t115) ++ (⟨#[59]⟩ : ByteArray)) ++ t116).size + (1 + t117.size + 1 + t118.size) ≤ 9223372036854775807
                        · rw [if_pos c25] at H
                          have c25b0 := eq_true c25
                          have c25b1 : decide (((((⟨#[34]⟩ : ByteArray) ++ t115) ++ (⟨#[59]⟩ : ByteArray)) ++ t116).size + (1 + t117.size + 1 + t118.size) ≤ 9223372036854775807) = true := decide_eq_true c25
                          try have c25b2 : (9223372036854775807 < ((((⟨#[34]⟩ : ByteArray) ++ t115) ++ (⟨#[59]⟩ : ByteArray)) ++ t116).size + (1 + t117.size + 1 + t118.size)) = False := eq_false (Nat.not_lt.2 c25)
                          have c25b3 : (9223372036854775807 < 1 + t115.size + 1 + t116.size + (1 + t117.size + 1 + t118.size)) = False := eq_false (by have k0_ : (⟨#[34]⟩ : ByteArray).size = 1 := rfl; have k1_ : (⟨#[59]⟩ : ByteArray).size = 1 := rfl; have h_ := c25; simp only [ByteArray.size_append] at h_; omega)
                          obtain rfl := Option.some.inj H
                          try go_wp2
                          have n0_ := Aside0.mk (blk_drew BK114.out)
                          have n1_ := Aside0.mk (below_drew1 HB.out)
                          clear BK114
                          clear HB
                          have BK114 := n0_
                          have HB := n1_
                          clear n0_ n1_
                          refine start_ (n := 12) (S := fun w' => w'.cell? ⟨gb114, 0, none⟩ = some (.int .i64 x115000_1) ∧ w'.cell? ⟨gb114, 1, none⟩ = some (.int .i64 x115001_1) ∧ w'.cell? ⟨gb114, 2, none⟩ = some (.int .i64 x115002_1) ∧ w'.cell? ⟨gb114, 3, none⟩ = some (.int .i64 x115003_1)) (ds := []) #[false, false, false, false, false, false, false, false, false, false, false, false] (by kernel_rfl) rfl rfl ⟨(blk_cell BK114.out 0).trans rfl, (blk_cell BK114.out 1).trans rfl, (blk_cell BK114.out 2).trans rfl, (blk_cell BK114.out 3).trans rfl⟩ (fun hHeld => ?_); refine with_tabW spec_SixelRaster.tab5 spec_SixelRaster.bits5 (fun HT_ HW_ => ?_)
                          generalize wc.drew = w26 at BK114 HB hHeld ⊢
                          refine pure_ (i := 0) (N := some 26) (v := ?_) (a' := ?_) #[true, false, false, false, false, false, false, false, false, false, false, false] rfl rfl (any_of HT_.out (by kernel_rfl)) (fun _ _ _ h => h) (Or.inl ⟨by rfl, ?_⟩) ?_ ?_
                          rotate_left
                          · intro w'
                            go_simp
                            with_reducible rfl
                          rotate_left
                          · simp only [Act.put, List.setIfInBounds_toArray, List.set_cons_zero, List.set_cons_succ, i64_w, i32_w]
                            rfl
                          refine pure_ (i := 1) (N := some 27) (v := ?_) (a' := ?_) #[true, true, false, false, false, false, false, false, false, false, false, false] rfl rfl (any_of HT_.out (by kernel_rfl)) (fun _ _ _ h => h) (Or.inl ⟨by rfl, ?_⟩) ?_ ?_
                          rotate_left
                          · intro w'
                            go_simp
                            with_reducible rfl
                          rotate_left
                          · simp only [Act.put, List.setIfInBounds_toArray, List.set_cons_zero, List.set_cons_succ, i64_w, i32_w]
                            rfl
                          refine pure_ (i := 6) (N := some 32) (v := ?_) (a' := ?_) #[true, true, false, false, false, false, true, false, false, false, false, false] rfl rfl (any_of HT_.out (by kernel_rfl)) (fun _ _ _ h => h) (Or.inl ⟨by rfl, ?_⟩) ?_ ?_
                          rotate_left
                          · intro w'
                            go_simp
                            with_reducible rfl
                          rotate_left
                          · simp only [Act.put, List.setIfInBounds_toArray, List.set_cons_zero, List.set_cons_succ, i64_w, i32_w]
                            rfl
                          refine take_ (i := 2) (N := some 28) (v := ?_) (a' := ?_) #[true, true, true, false, false, false, true, false, false, false, false, false] rfl rfl (take_ofW HT_.out HW_.out (by kernel_rfl)) (fun _ _ _ h => h) (Or.inl ⟨by rfl, ?_⟩) hHeld ?_ ?_
                          rotate_left
                          · rintro w' ⟨s0, s1, s2, s3⟩
                            go_simp
                            with_reducible rfl
                          rotate_left
                          · simp only [Act.put, List.setIfInBounds_toArray, List.set_cons_zero, List.set_cons_succ, i64_w, i32_w]
                            rfl
                          refine take_ (i := 7) (N := some 33) (v := ?_) (a' := ?_) #[true, true, true, false, false, false, true, true, false, false, false, false] rfl rfl (take_ofW HT_.out HW_.out (by kernel_rfl)) (fun _ _ _ h => h) (Or.inl ⟨by rfl, ?_⟩) hHeld ?_ ?_
                          rotate_left
                          · rintro w' ⟨s0, s1, s2, s3⟩
                            go_simp
                            with_reducible rfl
                          rotate_left
                          · simp only [Act.put, List.setIfInBounds_toArray, List.set_cons_zero, List.set_cons_succ, i64_w, i32_w]
                            rfl
                          refine one_ (i := 3) (N := some 29) #[true, true, true, true, false, false, true, true, false, false, false, false] rfl rfl (one_of HT_.out (by kernel_rfl)) (by decide) (fun K hK => ?_)
                          refine goes_ Tryd.func10 (by kernel_rfl) rfl #[.int .i64 x115002_1] (by rfl) rfl rfl (by (try simp only [List.map_toArray, List.map_cons, List.map_nil]); first | done | rfl | (simp only [List.length_drop, List.length_take]; rfl) | (simp [Act.eval, *]; done) | (simp [Act.eval, *]; unfold wrap64; omega)) ?_
                          with_reducible refine (spec_SixelNumber.calls kj11 x115002_1 t117 _ A20.out).mono ?_
                          rintro e w27 ⟨rfl, hb⟩
                          refine ⟨_, rfl, ?_⟩
                          have n0_ := Aside0.mk (blk_below (g := gb114) (o := .cells #[.int .i64 x115000_1, .int .i64 x115001_1, .int .i64 x115002_1, .int .i64 x115003_1] 35 (0, 0)) (by (with_reducible repeat (first | refine blk_drewN ?_ _ | refine blk_drew ?_ | refine blk_alloc ?_ _)); exact BK114.out) hb)
                          have n1_ := Aside0.mk (below_step (by repeat (first | (with_reducible first | exact HB.out | apply below_alloc | apply Go.Proofs.YtjicpadeplminaaDoor.Ext.below_bytes | apply pw_below_drewN | apply below_drew1 | refine below_set ?_ GE114.out) | exact HB.out)) hb)
                          clear BK114
                          clear HB
                          have BK114 := n0_
                          have HB := n1_
                          clear n0_ n1_
                          (try clear hb)
                          (try clear hb2)
                          (try clear hk)
                          (try clear hi)
                          refine hK.out _ _ ⟨(blk_cell BK114.out 0).trans rfl, (blk_cell BK114.out 1).trans rfl, (blk_cell BK114.out 2).trans rfl, (blk_cell BK114.out 3).trans rfl⟩ (fun hHeld => ?_)
                          clear hK K
                          refine norm_ (a' := ?_) ?_ ?_
                          rotate_left
                          · show Act.put _ (some 29) _ = _
                            simp only [Act.put, List.setIfInBounds_toArray, List.set_cons_zero, List.set_cons_succ, i64_w, i32_w]
                            rfl
                          refine pure_ (i := 4) (N := some 30) (v := ?_) (a' := ?_) #[true, true, true, true, true, false, true, true, false, false, false, false] rfl rfl (any_of HT_.out (by kernel_rfl)) (fun _ _ _ h => h) (Or.inl ⟨by rfl, ?_⟩) ?_ ?_
                          rotate_left
                          · intro w'
                            go_simp
                            with_reducible rfl
                          rotate_left
                          · simp only [Act.put, List.setIfInBounds_toArray, List.set_cons_zero, List.set_cons_succ, i64_w, i32_w]
                            rfl
                          refine pure_ (i := 5) (N := some 31) (v := ?_) (a' := ?_) #[true, true, true, true, true, true, true, true, false, false, false, false] rfl rfl (any_of HT_.out (by kernel_rfl)) (fun _ _ _ h => h) (Or.inl ⟨by rfl, ?_⟩) ?_ ?_
                          rotate_left
                          · intro w'
                            go_simp
                            with_reducible rfl
                          rotate_left
                          · simp only [Act.put, List.setIfInBounds_toArray, List.set_cons_zero, List.set_cons_succ, i64_w, i32_w]
                            rfl
                          refine one_ (i := 8) (N := some 34) #[true, true, true, true, true, true, true, true, true, false, false, false] rfl rfl (one_of HT_.out (by kernel_rfl)) (by decide) (fun K hK => ?_)
                          refine goes_ Tryd.func10 (by kernel_rfl) rfl #[.int .i64 x115003_1] (by rfl) rfl rfl (by (try simp only [List.map_toArray, List.map_cons, List.map_nil]); first | done | rfl | (simp only [List.length_drop, List.length_take]; rfl) | (simp [Act.eval, *]; done) | (simp [Act.eval, *]; unfold wrap64; omega)) ?_
                          with_reducible refine (spec_SixelNumber.calls kj11 x115003_1 t118 _ A23.out).mono ?_
                          rintro e w28 ⟨rfl, hb⟩
                          refine ⟨_, rfl, ?_⟩
                          have n0_ := Aside0.mk (blk_below (g := gb114) (o := .cells #[.int .i64 x115000_1, .int .i64 x115001_1, .int .i64 x115002_1, .int .i64 x115003_1] 35 (0, 0)) (by (with_reducible repeat (first | refine blk_drewN ?_ _ | refine blk_drew ?_ | refine blk_alloc ?_ _)); exact BK114.out) hb)
                          have n1_ := Aside0.mk (below_step (by repeat (first | (with_reducible first | exact HB.out | apply below_alloc | apply Go.Proofs.YtjicpadeplminaaDoor.Ext.below_bytes | apply pw_below_drewN | apply below_drew1 | refine below_set ?_ GE114.out) | exact HB.out)) hb)
                          clear BK114
                          clear HB
                          have BK114 := n0_
                          have HB := n1_
                          clear n0_ n1_
                          (try clear hb)
                          (try clear hb2)
                          (try clear hk)
                          (try clear hi)
                          refine hK.out _ _ ⟨(blk_cell BK114.out 0).trans rfl, (blk_cell BK114.out 1).trans rfl, (blk_cell BK114.out 2).trans rfl, (blk_cell BK114.out 3).trans rfl⟩ (fun hHeld => ?_)
                          clear hK K
                          refine norm_ (a' := ?_) ?_ ?_
                          rotate_left
                          · show Act.put _ (some 34) _ = _
                            simp only [Act.put, List.setIfInBounds_toArray, List.set_cons_zero, List.set_cons_succ, i64_w, i32_w]
                            rfl
                          refine pure_ (i := 9) (N := some 35) (v := ?_) (a' := ?_) #[true, true, true, true, true, true, true, true, true, true, false, false] rfl rfl (any_of HT_.out (by kernel_rfl)) (fun _ _ _ h => h) (Or.inl ⟨by rfl, ?_⟩) ?_ ?_
                          rotate_left
                          · intro w'
                            go_simp
                            with_reducible rfl
                          rotate_left
                          · simp only [Act.put, List.setIfInBounds_toArray, List.set_cons_zero, List.set_cons_succ, i64_w, i32_w]
                            rfl
                          refine pure_ (i := 10) (N := some 36) (v := ?_) (a' := ?_) #[true, true, true, true, true, true, true, true, true, true, true, false] rfl rfl (any_of HT_.out (by kernel_rfl)) (fun _ _ _ h => h) (Or.inl ⟨by rfl, ?_⟩) ?_ ?_
                          rotate_left
                          · intro w'
                            go_simp
                            with_reducible rfl
                          rotate_left
                          · simp only [Act.put, List.setIfInBounds_toArray, List.set_cons_zero, List.set_cons_succ, i64_w, i32_w]
                            rfl
                          refine pure_ (i := 11) (N := some 3) (v := ?_) (a' := ?_) #[true, true, true, true, true, true, true, true, true, true, true, true] rfl rfl (any_of HT_.out (by kernel_rfl)) (fun _ _ _ h => h) (Or.inl ⟨by rfl, ?_⟩) ?_ ?_
                          rotate_left
                          · intro w'
                            go_simp
                            with_reducible rfl
                          rotate_left
                          · simp only [Act.put, List.setIfInBounds_toArray, List.set_cons_zero, List.set_cons_succ, i64_w, i32_w]
                            rfl
                          refine done_ (done_of HT_.out (by kernel_rfl)) ?_
                          try go_wp2
                          go_ret
                          exact ⟨by first | rfl | (simp [errW_none, errW_some] <;> rfl) | (simp [*, errW_none, errW_some] <;> rfl), by repeat (first | (with_reducible first | exact HB.out | apply below_alloc | apply Go.Proofs.YtjicpadeplminaaDoor.Ext.below_bytes | apply pw_below_drewN | apply below_drew1 | refine below_set ?_ GE114.out) | exact HB.out)⟩
                        · rw [if_neg c25] at H
                          exact absurd H (by simp)
                      · rw [if_neg c24] at H
                        exact absurd H (by simp)
                    · rw [if_neg c22] at H
                      exact absurd H (by simp)
                  · rw [if_neg c21] at H
                    exact absurd H (by simp)
                · replace c19 := Bool.eq_false_iff.mpr c19
                  subst c19
                  have H1 : (some ((((⟨#[34]⟩ : ByteArray) ++ t115) ++ (⟨#[59]⟩ : ByteArray)) ++ t116)) = some r := by rw [if_neg (show ¬ (false = true) by decide)] at H; exact H
                  clear H
                  have H := H1
                  clear H1
                  obtain rfl := Option.some.inj H
                  go_wp2
                  go_ret
                  exact ⟨by first | rfl | (simp [errW_none, errW_some] <;> rfl) | (simp [*, errW_none, errW_some] <;> rfl), by repeat (first | (with_reducible first | exact HB.out | apply below_alloc | apply Go.Proofs.YtjicpadeplminaaDoor.Ext.below_bytes | apply pw_below_drewN | apply below_drew1 | refine below_set ?_ GE114.out) | exact HB.out)⟩
          · rw [if_neg c11] at H
            exact absurd H (by simp)
        · rw [if_neg c9] at H
          exact absurd H (by simp)
      · rw [if_neg c8] at H
        exact absurd H (by simp)

/-! ### laws_FnSixelRaster: function 5 -/
def laws_FnSixelRaster.f (k : Nat) (a0_0 : Int) (a0_1 : Int) (a0_2 : Int) (a0_3 : Int) : Option (Bool) := (spec_SixelRaster.f k a0_0 a0_1 a0_2 a0_3).bind fun t120 => ((impl_WriteRaster.f a0_0 a0_1 a0_2 a0_3).bind fun t121 => (if t121.toList = t120.toList then ((impl_RasterText.f a0_0 a0_1 a0_2 a0_3).bind fun t122 => (some (t122.toList == t120.toList))) else (some false)))
theorem laws_FnSixelRaster.mono : ∀ a0 a1 a2 a3 k, LeO (laws_FnSixelRaster.f k a0 a1 a2 a3) (laws_FnSixelRaster.f (k + 1) a0 a1 a2 a3) := by
  intro a0 a1 a2 a3 k
  unfold laws_FnSixelRaster.f
  repeat' first
      | (with_reducible exact spec_SixelRaster.mono _ _ _ _ _)
      | (with_reducible exact LeO.refl _)
      | (with_reducible exact LeO.none _)
      | (with_reducible refine LeO.ite ?_ ?_)
      | (with_reducible refine LeO.bind ?_ (fun _ => ?_))
      | exact spec_SixelRaster.mono _ _ _ _ _
      | exact LeO.none _
      | refine LeO.ite ?_ ?_
      | refine LeO.bind ?_ (fun _ => ?_)
set_option maxHeartbeats 8000000 in
set_option maxRecDepth 100000 in
theorem laws_FnSixelRaster.calls (k : Nat) (a0_0 : Int) (a0_1 : Int) (a0_2 : Int) (a0_3 : Int) (r : Bool) (w : World) (hLD : Laid w) (h : laws_FnSixelRaster.f k a0_0 a0_1 a0_2 a0_3 = some r) :
    Calls Tryd.prog 5 #[.agg #[.int .i64 a0_0, .int .i64 a0_1, .int .i64 a0_2, .int .i64 a0_3]] w fun e w' => e = .returned (.bool r) ∧ Below w.heap.size w w' := by
  have hu33 := Tryd.underlying33
  have hu35 := Tryd.underlying35
  have HLD := Aside0.mk hLD
  clear hLD
  have HB := Aside0.mk (Below.refl w.heap.size w)
  have H : ((spec_SixelRaster.f k a0_0 a0_1 a0_2 a0_3).bind fun t120 => ((impl_WriteRaster.f a0_0 a0_1 a0_2 a0_3).bind fun t121 => (if t121.toList = t120.toList then ((impl_RasterText.f a0_0 a0_1 a0_2 a0_3).bind fun t122 => (some (t122.toList == t120.toList))) else (some false)))) = some r := h
  clear h
  replace H := Option.bind_eq_some_iff.mp H
  obtain ⟨t120, A20, H⟩ := H
  replace H : ((impl_WriteRaster.f a0_0 a0_1 a0_2 a0_3).bind fun t121 => (if t121.toList = t120.toList then ((impl_RasterText.f a0_0 a0_1 a0_2 a0_3).bind fun t122 => (some (t122.toList == t120.toList))) else (some false))) = some r := H
  have A2 := Aside0.mk A20
  clear A20
  replace H := Option.bind_eq_some_iff.mp H
  obtain ⟨t121, A30, H⟩ := H
  replace H : (if t121.toList = t120.toList then ((impl_RasterText.f a0_0 a0_1 a0_2 a0_3).bind fun t122 => (some (t122.toList == t120.toList))) else (some false)) = some r := H
  have A3 := Aside0.mk A30
  clear A30
  by_cases c4 : t121.toList = t120.toList
  · rw [if_pos c4] at H
    have c4b0 : (t121.toList == t120.toList) = true := beq_iff_eq.mpr c4
    have c4b1 : (t121.toList != t120.toList) = false := bne_eq_false_iff_eq.mpr c4
    clear c4
    replace H := Option.bind_eq_some_iff.mp H
    obtain ⟨t122, A50, H⟩ := H
    replace H : (some (t122.toList == t120.toList)) = some r := H
    have A5 := Aside0.mk A50
    clear A50
    obtain rfl := Option.some.inj H
    go_enter Tryd.func5, Tryd.ntmps5
    go_wp2_with (first | ((with_reducible refine gate_dst (N := 1) rfl ?_); refine box_event ?hg (N := 1) ?hd (cs := #[.int .i64 a0_0, .int .i64 a0_1, .int .i64 a0_2, .int .i64 a0_3]) (t := 33) ?hr ?_; (case hd => rfl); (case hg => rfl); (case hr => first | (go_simp; done) | (go_simp; rfl)); intro gb119 hg w6 hbox hb; have n0_ := Aside0.mk (below_step (by repeat (first | (with_reducible first | exact HB.out | apply below_alloc | apply Go.Proofs.YtjicpadeplminaaDoor.Ext.below_bytes | apply pw_below_drewN | apply below_drew1) | exact HB.out)) hb); have n1_ := Aside0.mk (hbox); have n2_ := Aside0.mk ((by rw [hg]; exact (below_size (by repeat (first | (with_reducible first | exact HB.out | apply below_alloc | apply Go.Proofs.YtjicpadeplminaaDoor.Ext.below_bytes | apply pw_below_drewN | apply below_drew1) | exact HB.out))) : w.heap.size ≤ gb119)); have n3_ := Aside0.mk ((by rw [hg]; exact (below_size (by repeat (first | (with_reducible first | exact HB.out | apply below_alloc | apply Go.Proofs.YtjicpadeplminaaDoor.Ext.below_bytes | apply pw_below_drewN | apply below_drew1) | exact HB.out))) : w.heap.size ≤ gb119)); clear HB; have HB := n0_; have BK119 := n1_; have GW119 := n2_; have GE119 := n3_; clear n0_ n1_ n2_ n3_; clear hb hbox hg; have hcz7_0 : w6.cell? ⟨gb119, 0, none⟩ = some (.int .i64 a0_0) := (blk_cell BK119.out 0).trans rfl; have hcz7_1 : w6.cell? ⟨gb119, 1, none⟩ = some (.int .i64 a0_1) := (blk_cell BK119.out 1).trans rfl; have hcz7_2 : w6.cell? ⟨gb119, 2, none⟩ = some (.int .i64 a0_2) := (blk_cell BK119.out 2).trans rfl; have hcz7_3 : w6.cell? ⟨gb119, 3, none⟩ = some (.int .i64 a0_3) := (blk_cell BK119.out 3).trans rfl; have hfz7_0 := blk_frozen BK119.out 0; have hfz7_1 := blk_frozen BK119.out 1; have hfz7_2 := blk_frozen BK119.out 2; have hfz7_3 := blk_frozen BK119.out 3) | ((with_reducible refine gate_callee (f := 12) rfl ?_); refine goesL_ (some 13) rfl rfl Tryd.func12 (by kernel_rfl) rfl #[.agg #[.int .i64 a0_0, .int .i64 a0_1, .int .i64 a0_2, .int .i64 a0_3]] rfl (by (try simp only [List.map_toArray, List.map_cons, List.map_nil]); first | done | rfl | (simp only [List.length_drop, List.length_take]; rfl) | (simp [Act.eval, *]; done) | (simp [Act.eval, *]; unfold wrap64; omega)) ?_; (with_reducible refine (spec_SixelRaster.calls k a0_0 a0_1 a0_2 a0_3 t120 _ A2.out).mono ?_); rintro e w8 ⟨rfl, hb⟩; refine ⟨_, rfl, ?_⟩; have n0_ := Aside0.mk (blk_below (g := gb119) (o := .cells #[.int .i64 a0_0, .int .i64 a0_1, .int .i64 a0_2, .int .i64 a0_3] 33 (0, 0)) (by (with_reducible repeat (first | refine blk_drewN ?_ _ | refine blk_drew ?_ | refine blk_alloc ?_ _)); exact BK119.out) hb); have n1_ := Aside0.mk (below_step (by repeat (first | (with_reducible first | exact HB.out | apply below_alloc | apply Go.Proofs.YtjicpadeplminaaDoor.Ext.below_bytes | apply pw_below_drewN | apply below_drew1 | refine below_set ?_ GE119.out) | exact HB.out)) hb); clear BK119; clear HB; have BK119 := n0_; have HB := n1_; clear n0_ n1_; (try clear hb); (try clear hb2); (try clear hk); (try clear hi); have hcz9_0 : w8.cell? ⟨gb119, 0, none⟩ = some (.int .i64 a0_0) := (blk_cell BK119.out 0).trans rfl; have hcz9_1 : w8.cell? ⟨gb119, 1, none⟩ = some (.int .i64 a0_1) := (blk_cell BK119.out 1).trans rfl; have hcz9_2 : w8.cell? ⟨gb119, 2, none⟩ = some (.int .i64 a0_2) := (blk_cell BK119.out 2).trans rfl; have hcz9_3 : w8.cell? ⟨gb119, 3, none⟩ = some (.int .i64 a0_3) := (blk_cell BK119.out 3).trans rfl; have hfz9_0 := blk_frozen BK119.out 0; have hfz9_1 := blk_frozen BK119.out 1; have hfz9_2 := blk_frozen BK119.out 2; have hfz9_3 := blk_frozen BK119.out 3) | ((with_reducible refine gate_callee (f := 13) rfl ?_); refine goesL_ (some 15) rfl rfl Tryd.func13 (by kernel_rfl) rfl #[.agg #[.int .i64 a0_0, .int .i64 a0_1, .int .i64 a0_2, .int .i64 a0_3]] rfl (by (try simp only [List.map_toArray, List.map_cons, List.map_nil]); first | done | rfl | (simp only [List.length_drop, List.length_take]; rfl) | (simp [Act.eval, *]; done) | (simp [Act.eval, *]; unfold wrap64; omega)) ?_; (with_reducible refine (impl_WriteRaster.calls a0_0 a0_1 a0_2 a0_3 t121 _ ?side1 A3.out).mono ?_); (case side1 => exact HLD.out.below (by repeat (first | (with_reducible first | exact HB.out | apply below_alloc | apply Go.Proofs.YtjicpadeplminaaDoor.Ext.below_bytes | apply pw_below_drewN | apply below_drew1 | refine below_set ?_ GE119.out) | exact HB.out))); rintro e w10 ⟨rfl, hb⟩; refine ⟨_, rfl, ?_⟩; have n0_ := Aside0.mk (blk_below (g := gb119) (o := .cells #[.int .i64 a0_0, .int .i64 a0_1, .int .i64 a0_2, .int .i64 a0_3] 33 (0, 0)) (by (with_reducible repeat (first | refine blk_drewN ?_ _ | refine blk_drew ?_ | refine blk_alloc ?_ _)); exact BK119.out) hb); have n1_ := Aside0.mk (below_step (by repeat (first | (with_reducible first | exact HB.out | apply below_alloc | apply Go.Proofs.YtjicpadeplminaaDoor.Ext.below_bytes | apply pw_below_drewN | apply below_drew1 | refine below_set ?_ GE119.out) | exact HB.out)) hb); clear BK119; clear HB; have BK119 := n0_; have HB := n1_; clear n0_ n1_; (try clear hb); (try clear hb2); (try clear hk); (try clear hi); have hcz11_0 : w10.cell? ⟨gb119, 0, none⟩ = some (.int .i64 a0_0) := (blk_cell BK119.out 0).trans rfl; have hcz11_1 : w10.cell? ⟨gb119, 1, none⟩ = some (.int .i64 a0_1) := (blk_cell BK119.out 1).trans rfl; have hcz11_2 : w10.cell? ⟨gb119, 2, none⟩ = some (.int .i64 a0_2) := (blk_cell BK119.out 2).trans rfl; have hcz11_3 : w10.cell? ⟨gb119, 3, none⟩ = some (.int .i64 a0_3) := (blk_cell BK119.out 3).trans rfl; have hfz11_0 := blk_frozen BK119.out 0; have hfz11_1 := blk_frozen BK119.out 1; have hfz11_2 := blk_frozen BK119.out 2; have hfz11_3 := blk_frozen BK119.out 3) | (go_at_call 14; (with_reducible refine (impl_RasterText.calls a0_0 a0_1 a0_2 a0_3 t122 _ ?side1 A5.out).mono ?_); (case side1 => exact HLD.out.below (by repeat (first | (with_reducible first | exact HB.out | apply below_alloc | apply Go.Proofs.YtjicpadeplminaaDoor.Ext.below_bytes | apply pw_below_drewN | apply below_drew1 | refine below_set ?_ GE119.out) | exact HB.out))); rintro e w12 ⟨rfl, hb⟩; have n0_ := Aside0.mk (blk_below (g := gb119) (o := .cells #[.int .i64 a0_0, .int .i64 a0_1, .int .i64 a0_2, .int .i64 a0_3] 33 (0, 0)) (by (with_reducible repeat (first | refine blk_drewN ?_ _ | refine blk_drew ?_ | refine blk_alloc ?_ _)); exact BK119.out) hb); have n1_ := Aside0.mk (below_step (by repeat (first | (with_reducible first | exact HB.out | apply below_alloc | apply Go.Proofs.YtjicpadeplminaaDoor.Ext.below_bytes | apply pw_below_drewN | apply below_drew1 | refine below_set ?_ GE119.out) | exact HB.out)) hb); clear BK119; clear HB; have BK119 := n0_; have HB := n1_; clear n0_ n1_; (try clear hb); (try clear hb2); (try clear hk); (try clear hi)))
    go_ret
    exact ⟨by first | rfl | (simp [errW_none, errW_some] <;> rfl) | (simp [*, errW_none, errW_some] <;> rfl), by repeat (first | (with_reducible first | exact HB.out | apply below_alloc | apply Go.Proofs.YtjicpadeplminaaDoor.Ext.below_bytes | apply pw_below_drewN | apply below_drew1 | refine below_set ?_ GE119.out) | exact HB.out)⟩
  · rw [if_neg c4] at H
    have c4b0 : (t121.toList == t120.toList) = false := beq_eq_false_iff_ne.mpr c4
    have c4b1 : (t121.toList != t120.toList) = true := bne_iff_ne.mpr c4
    obtain rfl := Option.some.inj H
    go_enter Tryd.func5, Tryd.ntmps5
    go_wp2_with (first | ((with_reducible refine gate_dst (N := 1) rfl ?_); refine box_event ?hg (N := 1) ?hd (cs := #[.int .i64 a0_0, .int .i64 a0_1, .int .i64 a0_2, .int .i64 a0_3]) (t := 33) ?hr ?_; (case hd => rfl); (case hg => rfl); (case hr => first | (go_simp; done) | (go_simp; rfl)); intro gb119 hg w13 hbox hb; have n0_ := Aside0.mk (below_step (by repeat (first | (with_reducible first | exact HB.out | apply below_alloc | apply Go.Proofs.YtjicpadeplminaaDoor.Ext.below_bytes | apply pw_below_drewN | apply below_drew1) | exact HB.out)) hb); have n1_ := Aside0.mk (hbox); have n2_ := Aside0.mk ((by rw [hg]; exact (below_size (by repeat (first | (with_reducible first | exact HB.out | apply below_alloc | apply Go.Proofs.YtjicpadeplminaaDoor.Ext.below_bytes | apply pw_below_drewN | apply below_drew1) | exact HB.out))) : w.heap.size ≤ gb119)); have n3_ := Aside0.mk ((by rw [hg]; exact (below_size (by repeat (first | (with_reducible first | exact HB.out | apply below_alloc | apply Go.Proofs.YtjicpadeplminaaDoor.Ext.below_bytes | apply pw_below_drewN | apply below_drew1) | exact HB.out))) : w.heap.size ≤ gb119)); clear HB; have HB := n0_; have BK119 := n1_; have GW119 := n2_; have GE119 := n3_; clear n0_ n1_ n2_ n3_; clear hb hbox hg; have hcz14_0 : w13.cell? ⟨gb119, 0, none⟩ = some (.int .i64 a0_0) := (blk_cell BK119.out 0).trans rfl; have hcz14_1 : w13.cell? ⟨gb119, 1, none⟩ = some (.int .i64 a0_1) := (blk_cell BK119.out 1).trans rfl; have hcz14_2 : w13.cell? ⟨gb119, 2, none⟩ = some (.int .i64 a0_2) := (blk_cell BK119.out 2).trans rfl; have hcz14_3 : w13.cell? ⟨gb119, 3, none⟩ = some (.int .i64 a0_3) := (blk_cell BK119.out 3).trans rfl; have hfz14_0 := blk_frozen BK119.out 0; have hfz14_1 := blk_frozen BK119.out 1; have hfz14_2 := blk_frozen BK119.out 2; have hfz14_3 := blk_frozen BK119.out 3) | ((with_reducible refine gate_callee (f := 12) rfl ?_); refine goesL_ (some 13) rfl rfl Tryd.func12 (by kernel_rfl) rfl #[.agg #[.int .i64 a0_0, .int .i64 a0_1, .int .i64 a0_2, .int .i64 a0_3]] rfl (by (try simp only [List.map_toArray, List.map_cons, List.map_nil]); first | done | rfl | (simp only [List.length_drop, List.length_take]; rfl) | (simp [Act.eval, *]; done) | (simp [Act.eval, *]; unfold wrap64; omega)) ?_; (with_reducible refine (spec_SixelRaster.calls k a0_0 a0_1 a0_2 a0_3 t120 _ A2.out).mono ?_); rintro e w15 ⟨rfl, hb⟩; refine ⟨_, rfl, ?_⟩; have n0_ := Aside0.mk (blk_below (g := gb119) (o := .cells #[.int .i64 a0_0, .int .i64 a0_1, .int .i64 a0_2, .int .i64 a0_3] 33 (0, 0)) (by (with_reducible repeat (first | refine blk_drewN ?_ _ | refine blk_drew ?_ | refine blk_alloc ?_ _)); exact BK119.out) hb); have n1_ := Aside0.mk (below_step (by repeat (first | (with_reducible first | exact HB.out | apply below_alloc | apply Go.Proofs.YtjicpadeplminaaDoor.Ext.below_bytes | apply pw_below_drewN | apply below_drew1 | refine below_set ?_ GE119.out) | exact HB.out)) hb); clear BK119; clear HB; have BK119 := n0_; have HB := n1_; clear n0_ n1_; (try clear hb); (try clear hb2); (try clear hk); (try clear hi); have hcz16_0 : w15.cell? ⟨gb119, 0, none⟩ = some (.int .i64 a0_0) := (blk_cell BK119.out 0).trans rfl; have hcz16_1 : w15.cell? ⟨gb119, 1, none⟩ = some (.int .i64 a0_1) := (blk_cell BK119.out 1).trans rfl; have hcz16_2 : w15.cell? ⟨gb119, 2, none⟩ = some (.int .i64 a0_2) := (blk_cell BK119.out 2).trans rfl; have hcz16_3 : w15.cell? ⟨gb119, 3, none⟩ = some (.int .i64 a0_3) := (blk_cell BK119.out 3).trans rfl; have hfz16_0 := blk_frozen BK119.out 0; have hfz16_1 := blk_frozen BK119.out 1; have hfz16_2 := blk_frozen BK119.out 2; have hfz16_3 := blk_frozen BK119.out 3) | ((with_reducible refine gate_callee (f := 13) rfl ?_); refine goesL_ (some 15) rfl rfl Tryd.func13 (by kernel_rfl) rfl #[.agg #[.int .i64 a0_0, .int .i64 a0_1, .int .i64 a0_2, .int .i64 a0_3]] rfl (by (try simp only [List.map_toArray, List.map_cons, List.map_nil]); first | done | rfl | (simp only [List.length_drop, List.length_take]; rfl) | (simp [Act.eval, *]; done) | (simp [Act.eval, *]; unfold wrap64; omega)) ?_; (with_reducible refine (impl_WriteRaster.calls a0_0 a0_1 a0_2 a0_3 t121 _ ?side1 A3.out).mono ?_); (case side1 => exact HLD.out.below (by repeat (first | (with_reducible first | exact HB.out | apply below_alloc | apply Go.Proofs.YtjicpadeplminaaDoor.Ext.below_bytes | apply pw_below_drewN | apply below_drew1 | refine below_set ?_ GE119.out) | exact HB.out))); rintro e w17 ⟨rfl, hb⟩; refine ⟨_, rfl, ?_⟩; have n0_ := Aside0.mk (blk_below (g := gb119) (o := .cells #[.int .i64 a0_0, .int .i64 a0_1, .int .i64 a0_2, .int .i64 a0_3] 33 (0, 0)) (by (with_reducible repeat (first | refine blk_drewN ?_ _ | refine blk_drew ?_ | refine blk_alloc ?_ _)); exact BK119.out) hb); have n1_ := Aside0.mk (below_step (by repeat (first | (with_reducible first | exact HB.out | apply below_alloc | apply Go.Proofs.YtjicpadeplminaaDoor.Ext.below_bytes | apply pw_below_drewN | apply below_drew1 | refine below_set ?_ GE119.out) | exact HB.out)) hb); clear BK119; clear HB; have BK119 := n0_; have HB := n1_; clear n0_ n1_; (try clear hb); (try clear hb2); (try clear hk); (try clear hi)))
    go_ret
    exact ⟨by first | rfl | (simp [errW_none, errW_some] <;> rfl) | (simp [*, errW_none, errW_some] <;> rfl), by repeat (first | (with_reducible first | exact HB.out | apply below_alloc | apply Go.Proofs.YtjicpadeplminaaDoor.Ext.below_bytes | apply pw_below_drewN | apply below_drew1 | refine below_set ?_ GE119.out) | exact HB.out)⟩

end Go.Proofs.YtjicpadeplminaaDoor.PS
