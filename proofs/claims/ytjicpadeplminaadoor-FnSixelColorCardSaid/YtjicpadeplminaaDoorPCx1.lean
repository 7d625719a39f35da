-- Written by wip/pp.py, a program of this session, out of the translation. Not trusted: Lean checks it.
import Derived.Test.YtjicpadeplminaaDoorPCx0
namespace Go.Proofs.YtjicpadeplminaaDoor.PC
open Go.RowKit Go.Proofs.YtjicpadeplminaaDoor.Or Go.Proofs.YtjicpadeplminaaDoor.Bld Go.Proofs.YtjicpadeplminaaDoorW.PrintWords Go.Proofs.YtjicpadeplminaaDoorW.PrintLast Go.Proofs.YtjicpadeplminaaDoorW.PrintMore
attribute [local go_sem] max2_int min2_int max_two min_two max_three min_three max_four min_four   -- for this text's walks alone
attribute [local go_sem] Go.Proofs.YtjicpadeplminaaDoor.Ext.wrap64_mod256 Go.Proofs.YtjicpadeplminaaDoor.Ext.wrap64_mod32 Go.Proofs.YtjicpadeplminaaDoor.Ext.i64_mod256 Go.Proofs.YtjicpadeplminaaDoor.Ext.i64_mod32 Go.Proofs.YtjicpadeplminaaDoor.Ext.i64_u8 Go.Proofs.YtjicpadeplminaaDoor.Ext.w64_u8 Go.Proofs.YtjicpadeplminaaDoor.Ext.i64_u32 Go.Proofs.YtjicpadeplminaaDoor.Ext.w64_u32 
set_option linter.unusedVariables false
set_option linter.unusedSimpArgs false

/-! ### spec_SixelNumber: function 10 -/
mutual
def spec_SixelNumber.j0 : Nat → Int → List Int → Int → Option (ByteArray)
  | 0, _, _, _ => none
  | k + 1, x0, x3, x4 => spec_SixelNumber.l0 k x0 x3 x4
def spec_SixelNumber.l0 : Nat → Int → List Int → Int → Option (ByteArray)
  | 0, _, _, _ => none
  | k + 1, x0, x3, x4 => if x4 > 9 then (if x3.length < 140737488355328 then (spec_SixelNumber.l0 k x0 (x3 ++ [(IntKind.u64.wrap (48 + (Int.tmod x4 10))) % 256]) (IntKind.u64.wrap (Int.tdiv x4 10))) else (none)) else (if x3.length < 140737488355328 then ((some (x3 ++ [(IntKind.u64.wrap (48 + x4)) % 256] : List Int)).bind fun y104 => (if x0 < 0 then (if y104.length < 140737488355328 then (spec_SixelNumber.j2 k (y104 ++ [45])) else (none)) else (spec_SixelNumber.j2 k y104))) else (none))
def spec_SixelNumber.j2 : Nat → List Int → Option (ByteArray)
  | 0, _ => none
  | k + 1, x3 => spec_SixelNumber.l1 k x3 0 (wrap64 ((x3.length : Int) - 1))
def spec_SixelNumber.l1 : Nat → List Int → Int → Int → Option (ByteArray)
  | 0, _, _, _ => none
  | k + 1, x3, x5, x6 => if x5 < x6 then (if 0 ≤ x6 then (if x6 < (x3.length : Int) then (if 0 ≤ x5 then (if x5 < (x3.length : Int) then (spec_SixelNumber.l1 k ((x3.set (x5 : Int).toNat (rd x3 x6)).set (x6 : Int).toNat (rd x3 x5)) (wrap64 (x5 + 1)) (wrap64 (x6 - 1))) else (none)) else (none)) else (none)) else (none)) else (some (strOfNums x3))
end
def spec_SixelNumber.f (k : Nat) (a0 : Int) : Option (ByteArray) := if a0 < 0 then (spec_SixelNumber.j0 k a0 ([] : List Int) (IntKind.u64.wrap (-(IntKind.u64.wrap (a0))))) else (spec_SixelNumber.j0 k a0 ([] : List Int) (IntKind.u64.wrap (a0)))
theorem spec_SixelNumber.mono_l : ∀ k, (∀ y0 y1 y2, LeO (spec_SixelNumber.j0 k y0 y1 y2) (spec_SixelNumber.j0 (k + 1) y0 y1 y2)) ∧ (∀ y0 y1 y2, LeO (spec_SixelNumber.l0 k y0 y1 y2) (spec_SixelNumber.l0 (k + 1) y0 y1 y2)) ∧ (∀ y0, LeO (spec_SixelNumber.j2 k y0) (spec_SixelNumber.j2 (k + 1) y0)) ∧ (∀ y0 y1 y2, LeO (spec_SixelNumber.l1 k y0 y1 y2) (spec_SixelNumber.l1 (k + 1) y0 y1 y2))
  | 0 => ⟨fun _ _ _ r h => by simp [spec_SixelNumber.j0] at h, fun _ _ _ r h => by simp [spec_SixelNumber.l0] at h, fun _ r h => by simp [spec_SixelNumber.j2] at h, fun _ _ _ r h => by simp [spec_SixelNumber.l1] at h⟩
  | k + 1 => by
    obtain ⟨ih0, ih1, ih2, ih3⟩ := spec_SixelNumber.mono_l k
    refine ⟨?_, ?_, ?_, ?_⟩
    · intro y0 y1 y2
      unfold spec_SixelNumber.j0
      repeat' first
      | (with_reducible exact ih0 _ _ _)
      | (with_reducible exact ih1 _ _ _)
      | (with_reducible exact ih2 _)
      | (with_reducible exact ih3 _ _ _)
      | (with_reducible exact LeO.refl _)
      | (with_reducible exact LeO.none _)
      | (with_reducible refine LeO.ite ?_ ?_)
      | (with_reducible refine LeO.bind ?_ (fun _ => ?_))
      | exact ih0 _ _ _
      | exact ih1 _ _ _
      | exact ih2 _
      | exact ih3 _ _ _
      | exact LeO.none _
      | refine LeO.ite ?_ ?_
      | refine LeO.bind ?_ (fun _ => ?_)
    · intro y0 y1 y2
      unfold spec_SixelNumber.l0
      repeat' first
      | (with_reducible exact ih0 _ _ _)
      | (with_reducible exact ih1 _ _ _)
      | (with_reducible exact ih2 _)
      | (with_reducible exact ih3 _ _ _)
      | (with_reducible exact LeO.refl _)
      | (with_reducible exact LeO.none _)
      | (with_reducible refine LeO.ite ?_ ?_)
      | (with_reducible refine LeO.bind ?_ (fun _ => ?_))
      | exact ih0 _ _ _
      | exact ih1 _ _ _
      | exact ih2 _
      | exact ih3 _ _ _
      | exact LeO.none _
      | refine LeO.ite ?_ ?_
      | refine LeO.bind ?_ (fun _ => ?_)
    · intro y0
      unfold spec_SixelNumber.j2
      repeat' first
      | (with_reducible exact ih0 _ _ _)
      | (with_reducible exact ih1 _ _ _)
      | (with_reducible exact ih2 _)
      | (with_reducible exact ih3 _ _ _)
      | (with_reducible exact LeO.refl _)
      | (with_reducible exact LeO.none _)
      | (with_reducible refine LeO.ite ?_ ?_)
      | (with_reducible refine LeO.bind ?_ (fun _ => ?_))
      | exact ih0 _ _ _
      | exact ih1 _ _ _
      | exact ih2 _
      | exact ih3 _ _ _
      | exact LeO.none _
      | refine LeO.ite ?_ ?_
      | refine LeO.bind ?_ (fun _ => ?_)
    · intro y0 y1 y2
      unfold spec_SixelNumber.l1
      repeat' first
      | (with_reducible exact ih0 _ _ _)
      | (with_reducible exact ih1 _ _ _)
      | (with_reducible exact ih2 _)
      | (with_reducible exact ih3 _ _ _)
      | (with_reducible exact LeO.refl _)
      | (with_reducible exact LeO.none _)
      | (with_reducible refine LeO.ite ?_ ?_)
      | (with_reducible refine LeO.bind ?_ (fun _ => ?_))
      | exact ih0 _ _ _
      | exact ih1 _ _ _
      | exact ih2 _
      | exact ih3 _ _ _
      | exact LeO.none _
      | refine LeO.ite ?_ ?_
      | refine LeO.bind ?_ (fun _ => ?_)
theorem spec_SixelNumber.mono : ∀ a0 k, LeO (spec_SixelNumber.f k a0) (spec_SixelNumber.f (k + 1) a0) := by
  intro a0 k
  obtain ⟨ih0, ih1, ih2, ih3⟩ := spec_SixelNumber.mono_l k
  unfold spec_SixelNumber.f
  repeat' first
      | (with_reducible exact ih0 _ _ _)
      | (with_reducible exact ih1 _ _ _)
      | (with_reducible exact ih2 _)
      | (with_reducible exact ih3 _ _ _)
      | (with_reducible exact LeO.refl _)
      | (with_reducible exact LeO.none _)
      | (with_reducible refine LeO.ite ?_ ?_)
      | (with_reducible refine LeO.bind ?_ (fun _ => ?_))
      | exact ih0 _ _ _
      | exact ih1 _ _ _
      | exact ih2 _
      | exact ih3 _ _ _
      | exact LeO.none _
      | refine LeO.ite ?_ ?_
      | refine LeO.bind ?_ (fun _ => ?_)
def spec_SixelNumber.T14 : Bool × List (List Nat × List Nat) := (true, [([], []), ([], []), ([], []), ([], []), ([], []), ([], []), ([4, 5], [4, 5]), ([6], [6]), ([], []), ([], []), ([8, 9], [8, 9]), ([10], [10]), ([0, 1, 0, 1, 4, 5, 6, 7, 11], [0, 1]), ([12, 7, 0, 1, 4, 5, 6, 7, 11], [7, 12]), ([2, 3, 0, 1, 2, 3, 4, 5, 6, 7, 8, 9, 10, 11, 12, 13], [2, 3]), ([14, 11, 13, 0, 1, 2, 3, 4, 5, 6, 7, 8, 9, 10, 11, 12, 13], [11, 14])])
def spec_SixelNumber.B14 : List Nat := [0, 0, 0, 0, 0, 0, 48, 112, 0, 0, 768, 1792, 4083, 8179, 16383, 32767]
theorem spec_SixelNumber.tab14 : rtab .any (opsOf Tryd.f10 14) = spec_SixelNumber.T14 := by kernel_rfl
theorem spec_SixelNumber.bits14 : waitsOk spec_SixelNumber.T14.2 spec_SixelNumber.B14 = true := by kernel_rfl
set_option maxHeartbeats 8000000 in
set_option maxRecDepth 100000 in
theorem spec_SixelNumber.calls (k : Nat) (a0 : Int) (r : ByteArray) (w : World) (h : spec_SixelNumber.f k a0 = some r) :
    Calls Tryd.prog 10 #[.int .i64 a0] w fun e w' => e = .returned (.string r) ∧ Below w.heap.size w w' := by
  have HB := Aside0.mk (Below.refl w.heap.size w)
  have H : (if a0 < 0 then (spec_SixelNumber.j0 k a0 ([] : List Int) (IntKind.u64.wrap (-(IntKind.u64.wrap (a0))))) else (spec_SixelNumber.j0 k a0 ([] : List Int) (IntKind.u64.wrap (a0)))) = some r := h
  clear h
  have HC2 := Aside0.mk H
  clear H
  go_enter Tryd.func10, Tryd.ntmps10
  go_upto_if 10 with (fail)
  go_cut [4] (fun v4 wc => ∃ (kq : Nat) (x4_1 : Int), v4 = .int .u64 x4_1 ∧ Aside0 (spec_SixelNumber.j0 kq a0 ([] : List Int) x4_1 = some r) ∧ Aside0 (kq ≤ k) ∧ Aside0 (Kd.R (Kd.int .u8) 5 wc w.heap.size (fun _ => True) (.slice none 0 0) ([] : List Int)) ∧ Aside0 (Below w.heap.size w wc))
  case first =>
    have H := HC2.out
    clear HC2
    by_cases c3 : a0 < 0
    · rw [if_pos c3] at H
      have c3b0 : decide (a0 < 0) = true := decide_eq_true c3
      clear c3
      (first | rw [c3b0] | (simp only [i64_w, i32_w]; rw [c3b0]) | skip)
      have H' := Aside0.mk H
      clear H
      go_wp2
      go_meet
      case rel => exact ⟨_, (IntKind.u64.wrap (-(IntKind.u64.wrap (a0)))), (by first | rfl | (simp; done) | (simp [*]; done)), H', ⟨by first | omega | exact Nat.le_refl _⟩, ⟨by first | exact Kd.R_nil _ _ _ _ _ | exact Kd.N_nil _ _ _ _ _ | exact Kd.V_nil _ _ _ _ _ | exact Kd.Q_nil _ _ _ _ _ | exact Kd.S_nil _ _ _ _ _⟩, ⟨by repeat (first | (with_reducible first | exact HB.out | apply below_alloc | apply Go.Proofs.YtjicpadeplminaaDoor.Ext.below_bytes | apply pw_below_drewN | apply below_drew1) | exact HB.out)⟩⟩
    · rw [if_neg c3] at H
      have c3b0 : decide (a0 < 0) = false := decide_eq_false c3
      clear c3
      (first | rw [c3b0] | (simp only [i64_w, i32_w]; rw [c3b0]) | skip)
      have H' := Aside0.mk H
      clear H
      go_wp2
      go_meet
      case rel => exact ⟨_, (IntKind.u64.wrap (a0)), (by first | rfl | (simp; done) | (simp [*]; done)), H', ⟨by first | omega | exact Nat.le_refl _⟩, ⟨by first | exact Kd.R_nil _ _ _ _ _ | exact Kd.N_nil _ _ _ _ _ | exact Kd.V_nil _ _ _ _ _ | exact Kd.Q_nil _ _ _ _ _ | exact Kd.S_nil _ _ _ _ _⟩, ⟨by repeat (first | (with_reducible first | exact HB.out | apply below_alloc | apply Go.Proofs.YtjicpadeplminaaDoor.Ext.below_bytes | apply pw_below_drewN | apply below_drew1) | exact HB.out)⟩⟩
  case rest =>
    clear HC2
    try clear c1
    try clear p2
    try clear c3
    try clear c3b0
    obtain ⟨kq, x4_1, rfl, HA, HJ1, HO_3, HB⟩ := hcut
    cases kq with
    | zero => exact absurd HA.out (by simp [spec_SixelNumber.j0])
    | succ kj1 =>
      have H := HA.out
      clear HA
      simp only [spec_SixelNumber.j0] at H
      have H' := Aside0.mk H
      clear H
      go_wp2
      go_loopg [3, 4] kj1 (fun kq v3 v4 w' => ∃ (x3_2 : List Int) (x4_2 : Int), v4 = .int .u64 x4_2 ∧ Aside0 (spec_SixelNumber.l0 kq a0 x3_2 x4_2 = some r) ∧ Aside0 (kq ≤ kj1) ∧ Aside0 (Kd.R (Kd.int .u8) 5 w' w.heap.size (fun _ => True) v3 x3_2) ∧ Aside0 (Below w.heap.size w w'))
      case atStart => exact ⟨(([] : List Int)), (x4_1), (by first | rfl | (simp; done) | (simp [*]; done)), H', ⟨Nat.le_refl _⟩, ⟨by (with_reducible repeat (first | apply Kd.R_alloc | apply Go.Proofs.YtjicpadeplminaaDoor.Ext.R_bytes | apply Kd.R_drewN | apply Kd.R_drew)); exact HO_3.out⟩, ⟨by repeat (first | (with_reducible first | exact HB.out | apply below_alloc | apply Go.Proofs.YtjicpadeplminaaDoor.Ext.below_bytes | apply pw_below_drewN | apply below_drew1) | exact HB.out)⟩⟩
      case round =>
        clear H'
        try clear c1
        try clear p2
        try clear c3
        try clear c3b0
        try clear p2
        obtain ⟨x3_2, x4_2, rfl, HA, HK2, HO_3, HB⟩ := hrel
        cases gk with
        | zero => exact absurd HA.out (by simp [spec_SixelNumber.l0])
        | succ k2 =>
          have H := HA.out
          clear HA
          simp only [spec_SixelNumber.l0] at H
          by_cases c4 : x4_2 > 9
          · rw [if_pos c4] at H
            have c4b0 : decide (9 < x4_2) = true := decide_eq_true c4
            clear c4
            by_cases c5 : x3_2.length < 140737488355328
            · rw [if_pos c5] at H
              have LMc5 := Aside0.mk c5
              clear c5
              obtain ⟨y101, hy101⟩ : ∃ y_ : List Int, y_ = (x3_2 ++ [(IntKind.u64.wrap (48 + (Int.tmod x4_2 10))) % 256]) := ⟨_, rfl⟩
              replace H : (spec_SixelNumber.l0 k2 a0 y101 (IntKind.u64.wrap (Int.tdiv x4_2 10))) = some r := by first | (rw [hy101]; with_reducible exact H) | (have H2_ := (Option.bind_some _ _).symm.trans H; rw [hy101]; with_reducible exact H2_) | (have H2_ := (Option.bind_some _ _).symm.trans H; with_reducible exact H2_) | with_reducible exact H | (rw [hy101]; exact H) | exact H
              have Ny101 := Aside0.mk hy101
              clear hy101
              have H' := Aside0.mk H
              clear H
              go_wp2_with (first | ((with_reducible refine gate_builtin (b := .append) (xs := #[.tmp 15, .tmp 20]) rfl ?_); at_builtin; refine Kd.R_append (Kd.int .u8) (w0 := w) w.heap.size rfl (.tmp 15) (.tmp 20) 30 5 (.int .u8 0) 1 rfl Tryd.underlying30 info5 rfl (by decide) (by omega) u3 x3_2 ((IntKind.u64.wrap (48 + (Int.tmod x4_2 10))) % 256) [.int .u8 ((IntKind.u64.wrap (48 + (Int.tmod x4_2 10))) % 256)] (fun _ => True) (fun _ => False) rfl rfl ?aP (fun _ hk => hk.elim) ?aF ?aO ?aB ?aS ?aL ?_; (case aP => exact rfl); (case aB => exact (by repeat (first | (with_reducible first | exact HB.out | apply below_alloc | apply Go.Proofs.YtjicpadeplminaaDoor.Ext.below_bytes | apply pw_below_drewN | apply below_drew1) | exact HB.out))); (case aF => exact (fun _ _ => trivial)); (case aO => exact (by (with_reducible repeat (first | apply Kd.R_alloc | apply Go.Proofs.YtjicpadeplminaaDoor.Ext.R_bytes | apply Kd.R_drewN | apply Kd.R_drew)); exact HO_3.out)); (case aS => exact (below_size (by repeat (first | (with_reducible first | exact HB.out | apply below_alloc | apply Go.Proofs.YtjicpadeplminaaDoor.Ext.below_bytes | apply pw_below_drewN | apply below_drew1) | exact HB.out)))); (case aL => have := LMc5.out; omega); intro v102 w6 ho hb hg hat; rw [← Ny101.out] at ho; have n0_ := Aside0.mk (hb); have n1_ := Aside0.mk (ho); clear HB; clear HO_3; have HB := n0_; have HO103 := n1_; clear n0_ n1_; clear ho hb hg hat))
              go_roundg k2
              case measure => have := HJ1.out; have := HK2.out; omega
              case rel => exact ⟨(y101), (IntKind.u64.wrap (Int.tdiv x4_2 10)), (by first | rfl | (simp; done) | (simp [*]; done)), H', ⟨by have := HJ1.out; have := HK2.out; omega⟩, ⟨by (with_reducible repeat (first | apply Kd.R_alloc | apply Go.Proofs.YtjicpadeplminaaDoor.Ext.R_bytes | apply Kd.R_drewN | apply Kd.R_drew)); exact HO103.out⟩, ⟨by repeat (first | (with_reducible first | exact HB.out | apply below_alloc | apply Go.Proofs.YtjicpadeplminaaDoor.Ext.below_bytes | apply pw_below_drewN | apply below_drew1) | exact HB.out)⟩⟩
            · rw [if_neg c5] at H
              exact absurd H (by simp)
          · rw [if_neg c4] at H
            have c4b0 : decide (9 < x4_2) = false := decide_eq_false c4
            clear c4
            by_cases c7 : x3_2.length < 140737488355328
            · rw [if_pos c7] at H
              have LMc7 := Aside0.mk c7
              clear c7
              obtain ⟨y104, hy104⟩ : ∃ y_ : List Int, y_ = (x3_2 ++ [(IntKind.u64.wrap (48 + x4_2)) % 256]) := ⟨_, rfl⟩
              replace H : (if a0 < 0 then (if y104.length < 140737488355328 then (spec_SixelNumber.j2 k2 (y104 ++ [45])) else (none)) else (spec_SixelNumber.j2 k2 y104)) = some r := by first | (rw [hy104]; with_reducible exact H) | (have H2_ := (Option.bind_some _ _).symm.trans H; rw [hy104]; with_reducible exact H2_) | (have H2_ := (Option.bind_some _ _).symm.trans H; with_reducible exact H2_) | with_reducible exact H | (rw [hy104]; exact H) | exact H
              have Ny104 := Aside0.mk hy104
              clear hy104
              have HC8 := Aside0.mk H
              clear H
              go_upto_if 31 with (first | ((with_reducible refine gate_builtin (b := .append) (xs := #[.tmp 24, .tmp 28]) rfl ?_); at_builtin; refine Kd.R_append (Kd.int .u8) (w0 := w) w.heap.size rfl (.tmp 24) (.tmp 28) 30 5 (.int .u8 0) 1 rfl Tryd.underlying30 info5 rfl (by decide) (by omega) u3 x3_2 ((IntKind.u64.wrap (48 + x4_2)) % 256) [.int .u8 ((IntKind.u64.wrap (48 + x4_2)) % 256)] (fun _ => True) (fun _ => False) rfl rfl ?aP (fun _ hk => hk.elim) ?aF ?aO ?aB ?aS ?aL ?_; (case aP => exact rfl); (case aB => exact (by repeat (first | (with_reducible first | exact HB.out | apply below_alloc | apply Go.Proofs.YtjicpadeplminaaDoor.Ext.below_bytes | apply pw_below_drewN | apply below_drew1) | exact HB.out))); (case aF => exact (fun _ _ => trivial)); (case aO => exact (by (with_reducible repeat (first | apply Kd.R_alloc | apply Go.Proofs.YtjicpadeplminaaDoor.Ext.R_bytes | apply Kd.R_drewN | apply Kd.R_drew)); exact HO_3.out)); (case aS => exact (below_size (by repeat (first | (with_reducible first | exact HB.out | apply below_alloc | apply Go.Proofs.YtjicpadeplminaaDoor.Ext.below_bytes | apply pw_below_drewN | apply below_drew1) | exact HB.out)))); (case aL => have := LMc7.out; omega); intro v105 w9 ho hb hg hat; rw [← Ny104.out] at ho; have n0_ := Aside0.mk (hb); have n1_ := Aside0.mk (ho); clear HB; clear HO_3; have HB := n0_; have HO106 := n1_; clear n0_ n1_; clear ho hb hg hat))
              (try simp only [Act.put, List.setIfInBounds_toArray, List.set_cons_zero, List.set_cons_succ])
              go_cut [3] (fun v3 wc => ∃ (kq : Nat) (x3_7 : List Int), Aside0 (spec_SixelNumber.j2 kq x3_7 = some r) ∧ Aside0 (kq ≤ k2) ∧ Aside0 (Kd.R (Kd.int .u8) 5 wc w.heap.size (fun _ => True) v3 x3_7) ∧ Aside0 (Below w.heap.size w wc))
              case first =>
                have H := HC8.out
                clear HC8
                by_cases c10 : a0 < 0
                · rw [if_pos c10] at H
                  have c10b0 : decide (a0 < 0) = true := decide_eq_true c10
                  clear c10
                  (first | rw [c10b0] | (simp only [i64_w, i32_w]; rw [c10b0]) | skip)
                  by_cases c11 : y104.length < 140737488355328
                  · rw [if_pos c11] at H
                    have LMc11 := Aside0.mk c11
                    clear c11
                    obtain ⟨y107, hy107⟩ : ∃ y_ : List Int, y_ = (y104 ++ [45]) := ⟨_, rfl⟩
                    replace H : (spec_SixelNumber.j2 k2 y107) = some r := by first | (rw [hy107]; with_reducible exact H) | (have H2_ := (Option.bind_some _ _).symm.trans H; rw [hy107]; with_reducible exact H2_) | (have H2_ := (Option.bind_some _ _).symm.trans H; with_reducible exact H2_) | with_reducible exact H | (rw [hy107]; exact H) | exact H
                    have Ny107 := Aside0.mk hy107
                    clear hy107
                    have H' := Aside0.mk H
                    clear H
                    go_wp2_with (first | ((with_reducible refine gate_builtin (b := .append) (xs := #[.tmp 32, .tmp 33]) rfl ?_); at_builtin; refine Kd.R_append (Kd.int .u8) (w0 := w) w.heap.size rfl (.tmp 32) (.tmp 33) 30 5 (.int .u8 0) 1 rfl Tryd.underlying30 info5 rfl (by decide) (by omega) v105 y104 45 [.int .u8 45] (fun _ => True) (fun _ => False) rfl rfl ?aP (fun _ hk => hk.elim) ?aF ?aO ?aB ?aS ?aL ?_; (case aP => exact rfl); (case aB => exact (by repeat (first | (with_reducible first | exact HB.out | apply below_alloc | apply Go.Proofs.YtjicpadeplminaaDoor.Ext.below_bytes | apply pw_below_drewN | apply below_drew1) | exact HB.out))); (case aF => exact (fun _ _ => trivial)); (case aO => exact (by (with_reducible repeat (first | apply Kd.R_alloc | apply Go.Proofs.YtjicpadeplminaaDoor.Ext.R_bytes | apply Kd.R_drewN | apply Kd.R_drew)); exact HO106.out)); (case aS => exact (below_size (by repeat (first | (with_reducible first | exact HB.out | apply below_alloc | apply Go.Proofs.YtjicpadeplminaaDoor.Ext.below_bytes | apply pw_below_drewN | apply below_drew1) | exact HB.out)))); (case aL => have := LMc11.out; omega); intro v108 w12 ho hb hg hat; rw [← Ny107.out] at ho; have n0_ := Aside0.mk (hb); have n1_ := Aside0.mk (ho); clear HB; clear HO106; have HB := n0_; have HO109 := n1_; clear n0_ n1_; clear ho hb hg hat))
                    go_meet
                    case rel => exact ⟨_, (y107), H', ⟨by have := HJ1.out; have := HK2.out; first | omega | exact Nat.le_refl _⟩, ⟨by (with_reducible repeat (first | apply Kd.R_alloc | apply Go.Proofs.YtjicpadeplminaaDoor.Ext.R_bytes | apply Kd.R_drewN | apply Kd.R_drew)); exact HO109.out⟩, ⟨by repeat (first | (with_reducible first | exact HB.out | apply below_alloc | apply Go.Proofs.YtjicpadeplminaaDoor.Ext.below_bytes | apply pw_below_drewN | apply below_drew1) | exact HB.out)⟩⟩
                  · rw [if_neg c11] at H
                    exact absurd H (by simp)
                · rw [if_neg c10] at H
                  have c10b0 : decide (a0 < 0) = false := decide_eq_false c10
                  clear c10
                  (first | rw [c10b0] | (simp only [i64_w, i32_w]; rw [c10b0]) | skip)
                  have H' := Aside0.mk H
                  clear H
                  go_wp2
                  go_meet
                  case rel => exact ⟨_, (y104), H', ⟨by have := HJ1.out; have := HK2.out; first | omega | exact Nat.le_refl _⟩, ⟨by (with_reducible repeat (first | apply Kd.R_alloc | apply Go.Proofs.YtjicpadeplminaaDoor.Ext.R_bytes | apply Kd.R_drewN | apply Kd.R_drew)); exact HO106.out⟩, ⟨by repeat (first | (with_reducible first | exact HB.out | apply below_alloc | apply Go.Proofs.YtjicpadeplminaaDoor.Ext.below_bytes | apply pw_below_drewN | apply below_drew1) | exact HB.out)⟩⟩
              case rest =>
                clear HC8
                try clear c1
                try clear p2
                try clear c3
                try clear c3b0
                try clear c4
                try clear c4b0
                try clear c5
                try clear c7
                try clear c10
                try clear c10b0
                try clear c11
                try clear p2
                obtain ⟨kq, x3_7, HA, HJ7, HO_3, HB⟩ := hcut
                cases kq with
                | zero => exact absurd HA.out (by simp [spec_SixelNumber.j2])
                | succ kj7 =>
                  have H := HA.out
                  clear HA
                  simp only [spec_SixelNumber.j2] at H
                  have H' := Aside0.mk H
                  clear H
                  obtain ⟨Ao13, co13, eo13⟩ := Kd.R_slice HO_3.out
                  subst eo13
                  go_wp2
                  go_loopg [5, 6] kj7 (fun kq v5 v6 w' => ∃ (x3_4 : List Int) (x5_4 : Int) (x6_4 : Int), v5 = .int .i64 x5_4 ∧ v6 = .int .i64 x6_4 ∧ Aside0 (spec_SixelNumber.l1 kq x3_4 x5_4 x6_4 = some r) ∧ Aside0 (kq ≤ kj7) ∧ Aside0 (Kd.R (Kd.int .u8) 5 w' w.heap.size (fun _ => True) (.slice Ao13 x3_7.length co13) x3_4) ∧ Aside0 (Below w.heap.size w w'))
                  case atStart => exact ⟨(x3_7), (0), (wrap64 ((x3_7.length : Int) - 1)), (by first | rfl | (simp; done) | (simp [*]; done)), (by first | rfl | (simp; done) | (simp [*]; done)), H', ⟨Nat.le_refl _⟩, ⟨by (with_reducible repeat (first | apply Kd.R_alloc | apply Go.Proofs.YtjicpadeplminaaDoor.Ext.R_bytes | apply Kd.R_drewN | apply Kd.R_drew)); exact HO_3.out⟩, ⟨by repeat (first | (with_reducible first | exact HB.out | apply below_alloc | apply Go.Proofs.YtjicpadeplminaaDoor.Ext.below_bytes | apply pw_below_drewN | apply below_drew1) | exact HB.out)⟩⟩
                  case round =>
                    clear H'
                    try clear c1
                    try clear p2
                    try clear c3
                    try clear c3b0
                    try clear c4
                    try clear c4b0
                    try clear c5
                    try clear p6
                    try clear c7
                    try clear c10
                    try clear c10b0
                    try clear c11
                    try clear p2
                    obtain ⟨x3_4, x5_4, x6_4, rfl, rfl, HA, HK4, HO_3, HB⟩ := hrel
                    have hl3_4 := (Kd.R_reads' HO_3.out).1
                    rw [hl3_4] at HO_3
                    (try simp only [hl3_4])
                    cases gk with
                    | zero => exact absurd HA.out (by simp [spec_SixelNumber.l1])
                    | succ k4 =>
                      have H := HA.out
                      clear HA
                      simp only [spec_SixelNumber.l1] at H
                      by_cases c14 : x5_4 < x6_4
                      · rw [if_pos c14] at H
                        have c14b0 : decide (x5_4 < x6_4) = true := decide_eq_true c14
                        clear c14
                        by_cases c15 : 0 ≤ x6_4
                        · rw [if_pos c15] at H
                          have c15b0 : decide (0 ≤ x6_4) = true := decide_eq_true c15
                          clear c15
                          by_cases c16 : x6_4 < (x3_4.length : Int)
                          · rw [if_pos c16] at H
                            have c16b0 : decide (x6_4 < (x3_4.length : Int)) = true := decide_eq_true c16
                            clear c16
                            by_cases c17 : 0 ≤ x5_4
                            · rw [if_pos c17] at H
                              have c17b0 : decide (0 ≤ x5_4) = true := decide_eq_true c17
                              clear c17
                              by_cases c18 : x5_4 < (x3_4.length : Int)
                              · rw [if_pos c18] at H
                                have c18b0 : decide (x5_4 < (x3_4.length : Int)) = true := decide_eq_true c18
                                clear c18
                                obtain ⟨y112, hy112⟩ : ∃ y_ : List Int, y_ = (x3_4.set (x5_4 : Int).toNat (rd x3_4 x6_4)) := ⟨_, rfl⟩
                                replace H : (spec_SixelNumber.l1 k4 (y112.set (x6_4 : Int).toNat (rd x3_4 x5_4)) (wrap64 (x5_4 + 1)) (wrap64 (x6_4 - 1))) = some r := by first | (rw [hy112]; with_reducible exact H) | (have H2_ := (Option.bind_some _ _).symm.trans H; rw [hy112]; with_reducible exact H2_) | (have H2_ := (Option.bind_some _ _).symm.trans H; with_reducible exact H2_) | with_reducible exact H | (rw [hy112]; exact H) | exact H
                                have Ny112 := Aside0.mk hy112
                                clear hy112
                                obtain ⟨y113, hy113⟩ : ∃ y_ : List Int, y_ = (y112.set (x6_4 : Int).toNat (rd x3_4 x5_4)) := ⟨_, rfl⟩
                                replace H : (spec_SixelNumber.l1 k4 y113 (wrap64 (x5_4 + 1)) (wrap64 (x6_4 - 1))) = some r := by first | (rw [hy113]; with_reducible exact H) | (have H2_ := (Option.bind_some _ _).symm.trans H; rw [hy113]; with_reducible exact H2_) | (have H2_ := (Option.bind_some _ _).symm.trans H; with_reducible exact H2_) | with_reducible exact H | (rw [hy113]; exact H) | exact H
                                have Ny113 := Aside0.mk hy113
                                clear hy113
                                have H' := Aside0.mk H
                                clear H
                                try go_wp2
                                have n0_ := Aside0.mk (Kd.R_drew HO_3.out)
                                have n1_ := Aside0.mk (below_drew1 HB.out)
                                clear HO_3
                                clear HB
                                have HO_3 := n0_
                                have HB := n1_
                                clear n0_ n1_
                                have p110 : 0 ≤ (x6_4 : Int) := of_decide_eq_true (by first | (with_reducible assumption) | assumption)
                                have q110 : x6_4 < (x3_4.length : Int) := of_decide_eq_true (by first | (with_reducible assumption) | assumption)
                                obtain ⟨ad110, e110, hx110_0⟩ := Kd.at_int (Kd.R_reads' HO_3.out).2.2 x6_4 p110 q110
                                cases e110
                                replace p110 := eq_true p110
                                replace q110 := eq_true q110
                                have p111 : 0 ≤ (x5_4 : Int) := of_decide_eq_true (by first | (with_reducible assumption) | assumption)
                                have q111 : x5_4 < (x3_4.length : Int) := of_decide_eq_true (by first | (with_reducible assumption) | assumption)
                                obtain ⟨ad111, e111, hx111_0⟩ := Kd.at_int (Kd.R_reads' HO_3.out).2.2 x5_4 p111 q111
                                obtain rfl : ad110 = ad111 := (by injection e111)
                                replace p111 := eq_true p111
                                replace q111 := eq_true q111
                                have p19 : 0 ≤ (x5_4 : Int) := of_decide_eq_true (by first | (with_reducible assumption) | assumption)
                                have q19 : (x5_4 : Int) < ((x3_4.length : Int) : Int) := of_decide_eq_true (by first | (with_reducible assumption) | assumption)
                                obtain ⟨go19, co19, eo19, gb19, gl19, cl19, HG19⟩ := Kd.R_form HO_3.out (by omega)
                                (first | cases eo19 | (injection eo19 with ea_ en_ ec_; (first | subst ea_ | (injection ea_ with ea_; subst ea_)); subst ec_; clear en_))
                                have GB19 := Aside0.mk gb19
                                have GG19 := Aside0.mk HG19
                                clear gb19 gl19 HG19
                                (first | simp only [add_plain] at hx110_0 | skip)
                                (first | simp only [add_plain] at hx111_0 | skip)
                                obtain ⟨hx19_0, hf19_0⟩ := Kd.R_celln 0 HO_3.out (x5_4 : Int) p19 q19
                                replace p19 := eq_true p19
                                replace q19 := eq_true q19
                                have HP22 := Kd.R_putn HO_3.out (x5_4 : Int) (rd x3_4 x6_4)
                                rw [← Ny112.out] at HP22
                                have HQ22 := Aside0.mk HP22
                                clear HP22
                                have p20 : 0 ≤ (x6_4 : Int) := of_decide_eq_true (by first | (with_reducible assumption) | assumption)
                                have q20 : (x6_4 : Int) < ((x3_4.length : Int) : Int) := of_decide_eq_true (by first | (with_reducible assumption) | assumption)
                                obtain ⟨hx20_0, hf20_0⟩ := Kd.R_celln 0 HQ22.out (x6_4 : Int) p20 q20
                                replace p20 := eq_true p20
                                replace q20 := eq_true q20
                                have HP23 := Kd.R_putn HQ22.out (x6_4 : Int) (rd x3_4 x5_4)
                                rw [← Ny113.out] at HP23
                                have HQ23 := Aside0.mk HP23
                                clear HP23
                                refine start_ (n := 16) (S := fun w' => w'.cell? ⟨go19, (x6_4).toNat, none⟩ = some (.int .u8 (rd x3_4 x6_4)) ∧ w'.cell? ⟨go19, (x5_4).toNat, none⟩ = some (.int .u8 (rd x3_4 x5_4))) (ds := [13, 15]) #[false, false, false, false, false, false, false, false, false, false, false, false, false, false, false, false] (by kernel_rfl) rfl rfl ⟨hx110_0, hx111_0⟩ (fun hHeld => ?_); refine with_tabW spec_SixelNumber.tab14 spec_SixelNumber.bits14 (fun HT_ HW_ => ?_)
                                generalize wr.drew = w21 at HO_3 HB GG19 HQ22 HQ23 hf19_0 hf20_0 hx110_0 hx111_0 hx19_0 hx20_0 hHeld ⊢
                                refine pure_ (i := 0) (N := some 45) (v := ?_) (a' := ?_) #[true, false, false, false, false, false, false, false, false, false, false, false, false, false, false, false] rfl rfl (any_of HT_.out (by kernel_rfl)) (fun _ _ _ h => h) (Or.inl ⟨by rfl, ?_⟩) ?_ ?_
                                rotate_left
                                · intro w'
                                  go_simp
                                  with_reducible rfl
                                rotate_left
                                · simp only [Act.put, List.setIfInBounds_toArray, List.set_cons_zero, List.set_cons_succ, i64_w, i32_w]
                                  rfl
                                refine pure_ (i := 1) (N := some 46) (v := ?_) (a' := ?_) #[true, true, false, false, false, false, false, false, false, false, false, false, false, false, false, false] rfl rfl (any_of HT_.out (by kernel_rfl)) (fun _ _ _ h => h) (Or.inl ⟨by rfl, ?_⟩) ?_ ?_
                                rotate_left
                                · intro w'
                                  go_simp
                                  with_reducible rfl
                                rotate_left
                                · simp only [Act.put, List.setIfInBounds_toArray, List.set_cons_zero, List.set_cons_succ, i64_w, i32_w]
                                  rfl
                                refine pure_ (i := 2) (N := some 47) (v := ?_) (a' := ?_) #[true, true, true, false, false, false, false, false, false, false, false, false, false, false, false, false] rfl rfl (any_of HT_.out (by kernel_rfl)) (fun _ _ _ h => h) (Or.inl ⟨by rfl, ?_⟩) ?_ ?_
                                rotate_left
                                · intro w'
                                  go_simp
                                  with_reducible rfl
                                rotate_left
                                · simp only [Act.put, List.setIfInBounds_toArray, List.set_cons_zero, List.set_cons_succ, i64_w, i32_w]
                                  rfl
                                refine pure_ (i := 3) (N := some 48) (v := ?_) (a' := ?_) #[true, true, true, true, false, false, false, false, false, false, false, false, false, false, false, false] rfl rfl (any_of HT_.out (by kernel_rfl)) (fun _ _ _ h => h) (Or.inl ⟨by rfl, ?_⟩) ?_ ?_
                                rotate_left
                                · intro w'
                                  go_simp
                                  with_reducible rfl
                                rotate_left
                                · simp only [Act.put, List.setIfInBounds_toArray, List.set_cons_zero, List.set_cons_succ, i64_w, i32_w]
                                  rfl
                                refine pure_ (i := 4) (N := some 49) (v := ?_) (a' := ?_) #[true, true, true, true, true, false, false, false, false, false, false, false, false, false, false, false] rfl rfl (any_of HT_.out (by kernel_rfl)) (fun _ _ _ h => h) (Or.inl ⟨by rfl, ?_⟩) ?_ ?_
                                rotate_left
                                · intro w'
                                  go_simp
                                  with_reducible rfl
                                rotate_left
                                · simp only [Act.put, List.setIfInBounds_toArray, List.set_cons_zero, List.set_cons_succ, i64_w, i32_w]
                                  rfl
                                refine pure_ (i := 5) (N := some 50) (v := ?_) (a' := ?_) #[true, true, true, true, true, true, false, false, false, false, false, false, false, false, false, false] rfl rfl (any_of HT_.out (by kernel_rfl)) (fun _ _ _ h => h) (Or.inl ⟨by rfl, ?_⟩) ?_ ?_
                                rotate_left
                                · intro w'
                                  go_simp
                                  with_reducible rfl
                                rotate_left
                                · simp only [Act.put, List.setIfInBounds_toArray, List.set_cons_zero, List.set_cons_succ, i64_w, i32_w]
                                  rfl
                                refine pure_ (i := 6) (N := some 51) (v := ?_) (a' := ?_) #[true, true, true, true, true, true, true, false, false, false, false, false, false, false, false, false] rfl rfl (any_of HT_.out (by kernel_rfl)) (fun _ _ _ h => h) (Or.inl ⟨by rfl, ?_⟩) ?_ ?_
                                rotate_left
                                · intro w'
                                  go_simp
                                  with_reducible rfl
                                rotate_left
                                · simp only [Act.put, List.setIfInBounds_toArray, List.set_cons_zero, List.set_cons_succ, i64_w, i32_w]
                                  rfl
                                refine pure_ (i := 8) (N := some 53) (v := ?_) (a' := ?_) #[true, true, true, true, true, true, true, false, true, false, false, false, false, false, false, false] rfl rfl (any_of HT_.out (by kernel_rfl)) (fun _ _ _ h => h) (Or.inl ⟨by rfl, ?_⟩) ?_ ?_
                                rotate_left
                                · intro w'
                                  go_simp
                                  with_reducible rfl
                                rotate_left
                                · simp only [Act.put, List.setIfInBounds_toArray, List.set_cons_zero, List.set_cons_succ, i64_w, i32_w]
                                  rfl
                                refine pure_ (i := 9) (N := some 54) (v := ?_) (a' := ?_) #[true, true, true, true, true, true, true, false, true, true, false, false, false, false, false, false] rfl rfl (any_of HT_.out (by kernel_rfl)) (fun _ _ _ h => h) (Or.inl ⟨by rfl, ?_⟩) ?_ ?_
                                rotate_left
                                · intro w'
                                  go_simp
                                  with_reducible rfl
                                rotate_left
                                · simp only [Act.put, List.setIfInBounds_toArray, List.set_cons_zero, List.set_cons_succ, i64_w, i32_w]
                                  rfl
                                refine pure_ (i := 10) (N := some 55) (v := ?_) (a' := ?_) #[true, true, true, true, true, true, true, false, true, true, true, false, false, false, false, false] rfl rfl (any_of HT_.out (by kernel_rfl)) (fun _ _ _ h => h) (Or.inl ⟨by rfl, ?_⟩) ?_ ?_
                                rotate_left
                                · intro w'
                                  go_simp
                                  with_reducible rfl
                                rotate_left
                                · simp only [Act.put, List.setIfInBounds_toArray, List.set_cons_zero, List.set_cons_succ, i64_w, i32_w]
                                  rfl
                                refine take_ (i := 7) (N := some 52) (v := ?_) (a' := ?_) #[true, true, true, true, true, true, true, true, true, true, true, false, false, false, false, false] rfl rfl (take_ofW HT_.out HW_.out (by kernel_rfl)) (fun _ _ _ h => h) (Or.inl ⟨by rfl, ?_⟩) hHeld ?_ ?_
                                rotate_left
                                · rintro w' ⟨s0, s1⟩
                                  go_simp
                                  with_reducible rfl
                                rotate_left
                                · simp only [Act.put, List.setIfInBounds_toArray, List.set_cons_zero, List.set_cons_succ, i64_w, i32_w]
                                  rfl
                                refine take_ (i := 11) (N := some 56) (v := ?_) (a' := ?_) #[true, true, true, true, true, true, true, true, true, true, true, true, false, false, false, false] rfl rfl (take_ofW HT_.out HW_.out (by kernel_rfl)) (fun _ _ _ h => h) (Or.inl ⟨by rfl, ?_⟩) hHeld ?_ ?_
                                rotate_left
                                · rintro w' ⟨s0, s1⟩
                                  go_simp
                                  with_reducible rfl
                                rotate_left
                                · simp only [Act.put, List.setIfInBounds_toArray, List.set_cons_zero, List.set_cons_succ, i64_w, i32_w]
                                  rfl
                                refine pure_ (i := 12) (N := some 57) (v := ?_) (a' := ?_) #[true, true, true, true, true, true, true, true, true, true, true, true, true, false, false, false] rfl rfl (any_of HT_.out (by kernel_rfl)) (fun _ _ _ h => h) (Or.inl ⟨by rfl, ?_⟩) ?_ ?_
                                rotate_left
                                · intro w'
                                  go_simp
                                  with_reducible rfl
                                rotate_left
                                · simp only [Act.put, List.setIfInBounds_toArray, List.set_cons_zero, List.set_cons_succ, i64_w, i32_w]
                                  rfl
                                refine last_ (i := 13) (N := none) #[true, true, true, true, true, true, true, true, true, true, true, true, true, true, false, false] rfl rfl (one_of HT_.out (by kernel_rfl)) (by decide) (fun K hK => ?_)
                                refine skip_ (w1 := ?_) (by rfl) rfl ?_ ?_
                                rotate_left
                                · go_simp
                                  rfl
                                refine hK.out _ _ ?_
                                clear hK K
                                refine pure_ (i := 14) (N := some 58) (v := ?_) (a' := ?_) #[true, true, true, true, true, true, true, true, true, true, true, true, true, true, true, false] rfl rfl (any_of HT_.out (by kernel_rfl)) (fun _ _ _ h => h) (Or.inl ⟨by rfl, ?_⟩) ?_ ?_
                                rotate_left
                                · intro w'
                                  go_simp
                                  with_reducible rfl
                                rotate_left
                                · simp only [Act.put, List.setIfInBounds_toArray, List.set_cons_zero, List.set_cons_succ, i64_w, i32_w]
                                  rfl
                                refine last_ (i := 15) (N := none) #[true, true, true, true, true, true, true, true, true, true, true, true, true, true, true, true] rfl rfl (one_of HT_.out (by kernel_rfl)) (by decide) (fun K hK => ?_)
                                refine skip_ (w1 := ?_) (by rfl) rfl ?_ ?_
                                rotate_left
                                · go_simp
                                  rfl
                                refine hK.out _ _ ?_
                                clear hK K
                                refine done_ (done_of HT_.out (by kernel_rfl)) ?_
                                try go_wp2
                                (try simp only [← hl3_4])
                                go_roundg k4
                                case measure => have := HJ1.out; have := HK2.out; have := HJ7.out; have := HK4.out; omega
                                case rel => exact ⟨(y113), (wrap64 (x5_4 + 1)), (wrap64 (x6_4 - 1)), (by first | rfl | (simp; done) | (simp [*]; done)), (by first | rfl | (simp; done) | (simp [*]; done)), H', ⟨by have := HJ1.out; have := HK2.out; have := HJ7.out; have := HK4.out; omega⟩, ⟨by (try simp only [hl3_4]); (with_reducible repeat (first | apply Kd.R_alloc | apply Go.Proofs.YtjicpadeplminaaDoor.Ext.R_bytes | apply Kd.R_drewN | apply Kd.R_drew)); exact HQ23.out⟩, ⟨by repeat (first | (with_reducible first | exact HB.out | apply below_alloc | apply Go.Proofs.YtjicpadeplminaaDoor.Ext.below_bytes | apply pw_below_drewN | apply below_drew1 | refine below_set ?_ GB19.out | refine below_set ?_ GB19.out) | exact HB.out)⟩⟩
                              · rw [if_neg c18] at H
                                exact absurd H (by simp)
                            · rw [if_neg c17] at H
                              exact absurd H (by simp)
                          · rw [if_neg c16] at H
                            exact absurd H (by simp)
                        · rw [if_neg c15] at H
                          exact absurd H (by simp)
                      · rw [if_neg c14] at H
                        have c14b0 : decide (x5_4 < x6_4) = false := decide_eq_false c14
                        clear c14
                        obtain rfl := Option.some.inj H
                        have hcv24 := own_string (P := Tryd.prog) Tryd.underlying30 Tryd.underlying5 Tryd.underlying9 (Kd.own_of_R HO_3.out)
                        go_wp2
                        go_ret
                        exact ⟨by first | rfl | (simp [errW_none, errW_some] <;> rfl) | (simp [*, errW_none, errW_some] <;> rfl), by repeat (first | (with_reducible first | exact HB.out | apply below_alloc | apply Go.Proofs.YtjicpadeplminaaDoor.Ext.below_bytes | apply pw_below_drewN | apply below_drew1) | exact HB.out)⟩
            · rw [if_neg c7] at H
              exact absurd H (by simp)

-- NOT PRINTED: function 8 (spec_SixelColor)

-- NOT PRINTED: function 3 (laws_FnSixelColor)

end Go.Proofs.YtjicpadeplminaaDoor.PC
