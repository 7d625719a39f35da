-- Written by wip/pp.py, a program of this session, out of the translation. Not trusted: Lean checks it.
import Derived.Test.YtohblegfpghejaaDoorPBx0
import Derived.Test.YtohblegfpghejaaDoorPBx4
import Derived.Test.YtohblegfpghejaaDoorPBx5
namespace Go.Proofs.YtohblegfpghejaaDoor.PB
open Go.RowKit Go.Proofs.YtohblegfpghejaaDoor.Or Go.Proofs.YtohblegfpghejaaDoorW.PrintWords Go.Proofs.YtohblegfpghejaaDoorW.PrintLast Go.Proofs.YtohblegfpghejaaDoorW.PrintMore
attribute [local go_sem] max2_int min2_int max_two min_two max_three min_three max_four min_four   -- for this text's walks alone
attribute [local go_sem] Go.Proofs.YtohblegfpghejaaDoor.Ext.wrap64_mod256 Go.Proofs.YtohblegfpghejaaDoor.Ext.wrap64_mod32 Go.Proofs.YtohblegfpghejaaDoor.Ext.i64_mod256 Go.Proofs.YtohblegfpghejaaDoor.Ext.i64_mod32 Go.Proofs.YtohblegfpghejaaDoor.Ext.i64_u8 Go.Proofs.YtohblegfpghejaaDoor.Ext.w64_u8 Go.Proofs.YtohblegfpghejaaDoor.Ext.i64_u32 Go.Proofs.YtohblegfpghejaaDoor.Ext.w64_u32 
set_option linter.unusedVariables false
set_option linter.unusedSimpArgs false

/-! ### laws_FnButtonBits: function 5 -/
def laws_FnButtonBits.j0 : Nat → Int → Bool → Bool → Bool → Bool → Bool → Option (Bool)
  | 0, _, _, _, _, _, _ => none
  | k + 1, x0, x1, x2, x3, x4, x18 => if x18 = true then ((laws_makeAwake.f k).bind fun t176 => (some t176)) else ((impl_ButtonOf.f k x0 x1 x2 x3 x4).bind fun t177 => (if (t177 / 64) = 0 then ((laws_makeAwake.f k).bind fun t178 => (if t178 = true then (if 1 > 0 then (if ((1 + (Go.bits .and .u8 t177 3)) % 256) = x0 then (if (((Go.bits .and .u8 t177 4) != 0) == x2) = true then (if (((Go.bits .and .u8 t177 8) != 0) == x3) = true then (if (((Go.bits .and .u8 t177 16) != 0) == x4) = true then (some (((Go.bits .and .u8 t177 32) != 0) == x1)) else (some false)) else (some false)) else (some false)) else (some false)) else (some false)) else (some false))) else (if (t177 / 64) = 1 then ((laws_makeAwake.f k).bind fun t179 => (if t179 = true then (if 4 > 0 then (if ((4 + (Go.bits .and .u8 t177 3)) % 256) = x0 then (if (((Go.bits .and .u8 t177 4) != 0) == x2) = true then (if (((Go.bits .and .u8 t177 8) != 0) == x3) = true then (if (((Go.bits .and .u8 t177 16) != 0) == x4) = true then (some (((Go.bits .and .u8 t177 32) != 0) == x1)) else (some false)) else (some false)) else (some false)) else (some false)) else (some false)) else (some false))) else (if (t177 / 64) = 2 then ((laws_makeAwake.f k).bind fun t180 => (if t180 = true then (if 8 > 0 then (if ((8 + (Go.bits .and .u8 t177 3)) % 256) = x0 then (if (((Go.bits .and .u8 t177 4) != 0) == x2) = true then (if (((Go.bits .and .u8 t177 8) != 0) == x3) = true then (if (((Go.bits .and .u8 t177 16) != 0) == x4) = true then (some (((Go.bits .and .u8 t177 32) != 0) == x1)) else (some false)) else (some false)) else (some false)) else (some false)) else (some false)) else (some false))) else (if (t177 / 64) = 3 then ((laws_makeAwake.f k).bind fun t181 => (if t181 = true then (if 0 > 0 then (if ((0 + (Go.bits .and .u8 t177 3)) % 256) = x0 then (if (((Go.bits .and .u8 t177 4) != 0) == x2) = true then (if (((Go.bits .and .u8 t177 8) != 0) == x3) = true then (if (((Go.bits .and .u8 t177 16) != 0) == x4) = true then (some (((Go.bits .and .u8 t177 32) != 0) == x1)) else (some false)) else (some false)) else (some false)) else (some false)) else (some false)) else (some false))) else (none))))))
def laws_FnButtonBits.f (k : Nat) (a0 : Int) (a1 : Bool) (a2 : Bool) (a3 : Bool) (a4 : Bool) : Option (Bool) := if a0 < 1 then (laws_FnButtonBits.j0 k a0 a1 a2 a3 a4 true) else (laws_FnButtonBits.j0 k a0 a1 a2 a3 a4 (decide (a0 > 11)))
theorem laws_FnButtonBits.mono_l : ∀ k, (∀ y0 y1 y2 y3 y4 y5, LeO (laws_FnButtonBits.j0 k y0 y1 y2 y3 y4 y5) (laws_FnButtonBits.j0 (k + 1) y0 y1 y2 y3 y4 y5))
  | 0 => fun _ _ _ _ _ _ r h => by simp [laws_FnButtonBits.j0] at h
  | k + 1 => by
    have ih0 := laws_FnButtonBits.mono_l k
    · intro y0 y1 y2 y3 y4 y5
      unfold laws_FnButtonBits.j0
      repeat' first
      | (with_reducible exact ih0 _ _ _ _ _ _)
      | (with_reducible exact impl_ButtonOf.mono _ _ _ _ _ _)
      | (with_reducible exact laws_makeAwake.mono _)
      | (with_reducible exact LeO.refl _)
      | (with_reducible exact LeO.none _)
      | (with_reducible refine LeO.ite ?_ ?_)
      | (with_reducible refine LeO.bind ?_ (fun _ => ?_))
      | exact ih0 _ _ _ _ _ _
      | exact impl_ButtonOf.mono _ _ _ _ _ _
      | exact laws_makeAwake.mono _
      | exact LeO.none _
      | refine LeO.ite ?_ ?_
      | refine LeO.bind ?_ (fun _ => ?_)
theorem laws_FnButtonBits.mono : ∀ a0 a1 a2 a3 a4 k, LeO (laws_FnButtonBits.f k a0 a1 a2 a3 a4) (laws_FnButtonBits.f (k + 1) a0 a1 a2 a3 a4) := by
  intro a0 a1 a2 a3 a4 k
  have ih0 := laws_FnButtonBits.mono_l k
  unfold laws_FnButtonBits.f
  repeat' first
      | (with_reducible exact ih0 _ _ _ _ _ _)
      | (with_reducible exact impl_ButtonOf.mono _ _ _ _ _ _)
      | (with_reducible exact laws_makeAwake.mono _)
      | (with_reducible exact LeO.refl _)
      | (with_reducible exact LeO.none _)
      | (with_reducible refine LeO.ite ?_ ?_)
      | (with_reducible refine LeO.bind ?_ (fun _ => ?_))
      | exact ih0 _ _ _ _ _ _
      | exact impl_ButtonOf.mono _ _ _ _ _ _
      | exact laws_makeAwake.mono _
      | exact LeO.none _
      | refine LeO.ite ?_ ?_
      | refine LeO.bind ?_ (fun _ => ?_)
set_option maxHeartbeats 8000000 in
set_option maxRecDepth 100000 in
theorem laws_FnButtonBits.calls (k : Nat) (a0 : Int) (a1 : Bool) (a2 : Bool) (a3 : Bool) (a4 : Bool) (r : Bool) (w : World) (hLD : Laid w) (h : laws_FnButtonBits.f k a0 a1 a2 a3 a4 = some r) :
    Calls Tryd.prog 5 #[.int .u8 a0, .bool a1, .bool a2, .bool a3, .bool a4] w fun e w' => e = .returned (.bool r) ∧ Below w.heap.size w w' := by
  have hu29 := Tryd.underlying29
  have HLD := Aside0.mk hLD
  clear hLD
  have HB := Aside0.mk (Below.refl w.heap.size w)
  have H : (if a0 < 1 then (laws_FnButtonBits.j0 k a0 a1 a2 a3 a4 true) else (laws_FnButtonBits.j0 k a0 a1 a2 a3 a4 (decide (a0 > 11)))) = some r := h
  clear h
  have HC6 := Aside0.mk H
  clear H
  go_enter Tryd.func5, Tryd.ntmps5
  go_upto_region 1 with (fail)
  go_cut [18] (fun v18 wc => ∃ (kq : Nat) (x18_5 : Bool), v18 = .bool x18_5 ∧ Aside0 (laws_FnButtonBits.j0 kq a0 a1 a2 a3 a4 x18_5 = some r) ∧ Aside0 (kq ≤ k) ∧ Aside0 (Below w.heap.size w wc))
  case first =>
    have H := HC6.out
    clear HC6
    by_cases c7 : a0 < 1
    · rw [if_pos c7] at H
      have c7b0 : decide (a0 < 1) = true := decide_eq_true c7
      clear c7
      (first | rw [c7b0] | (simp only [i64_w, i32_w]; rw [c7b0]) | skip)
      have H' := Aside0.mk H
      clear H
      go_wp2
      go_meet
      case rel => exact ⟨_, (true), (by first | rfl | (simp; done) | (simp [*]; done)), H', ⟨by first | omega | exact Nat.le_refl _⟩, ⟨by repeat (first | (with_reducible first | exact HB.out | apply below_alloc | apply Go.Proofs.YtohblegfpghejaaDoor.Ext.below_bytes | apply pw_below_drewN | apply below_drew1) | exact HB.out)⟩⟩
    · rw [if_neg c7] at H
      have c7b0 : decide (a0 < 1) = false := decide_eq_false c7
      clear c7
      (first | rw [c7b0] | (simp only [i64_w, i32_w]; rw [c7b0]) | skip)
      have H' := Aside0.mk H
      clear H
      go_wp2
      go_meet
      case rel => exact ⟨_, (decide (a0 > 11)), (by first | rfl | (simp; done) | (simp [*]; done)), H', ⟨by first | omega | exact Nat.le_refl _⟩, ⟨by repeat (first | (with_reducible first | exact HB.out | apply below_alloc | apply Go.Proofs.YtohblegfpghejaaDoor.Ext.below_bytes | apply pw_below_drewN | apply below_drew1) | exact HB.out)⟩⟩
  case rest =>
    clear HC6
    try clear p2
    try clear c5
    try clear c7
    try clear c7b0
    obtain ⟨kq, x18_5, rfl, HA, HJ5, HB⟩ := hcut
    cases kq with
    | zero => exact absurd HA.out (by simp [laws_FnButtonBits.j0])
    | succ kj5 =>
      have H := HA.out
      clear HA
      simp only [laws_FnButtonBits.j0] at H
      by_cases c8 : x18_5 = true
      · subst c8
        have H1 : ((laws_makeAwake.f kj5).bind fun t176 => (some t176)) = some r := by rw [if_pos rfl] at H; exact H
        clear H
        have H := H1
        clear H1
        replace H := Option.bind_eq_some_iff.mp H
        obtain ⟨t176, A90, H⟩ := H
        replace H : (some t176) = some r := H
        have A9 := Aside0.mk A90
        clear A90
        obtain rfl := Option.some.inj H
        go_wp2_with (first | ((with_reducible refine gate_callee (f := 11) rfl ?_); refine goesL_ (some 19) rfl rfl Tryd.func11 (by kernel_rfl) rfl #[] rfl (by (try simp only [List.map_toArray, List.map_cons, List.map_nil]); first | done | rfl | (simp only [List.length_drop, List.length_take]; rfl) | (simp [Act.eval, *]; done) | (simp [Act.eval, *]; unfold wrap64; omega)) ?_; (with_reducible refine (laws_makeAwake.calls kj5  t176 _ ?side1 A9.out).mono ?_); (case side1 => exact HLD.out.below (by repeat (first | (with_reducible first | exact HB.out | apply below_alloc | apply Go.Proofs.YtohblegfpghejaaDoor.Ext.below_bytes | apply pw_below_drewN | apply below_drew1) | exact HB.out))); rintro e w10 ⟨rfl, hb⟩; refine ⟨_, rfl, ?_⟩; have n0_ := Aside0.mk (below_step (by repeat (first | (with_reducible first | exact HB.out | apply below_alloc | apply Go.Proofs.YtohblegfpghejaaDoor.Ext.below_bytes | apply pw_below_drewN | apply below_drew1) | exact HB.out)) hb); clear HB; have HB := n0_; clear n0_; (try clear hb); (try clear hb2); (try clear hk); (try clear hi)))
        go_ret
        exact ⟨by first | rfl | (simp [errW_none, errW_some] <;> rfl) | (simp [*, errW_none, errW_some] <;> rfl), by repeat (first | (with_reducible first | exact HB.out | apply below_alloc | apply Go.Proofs.YtohblegfpghejaaDoor.Ext.below_bytes | apply pw_below_drewN | apply below_drew1) | exact HB.out)⟩
      · replace c8 := Bool.eq_false_iff.mpr c8
        subst c8
        have H1 : ((impl_ButtonOf.f kj5 a0 a1 a2 a3 a4).bind fun t177 => (if (t177 / 64) = 0 then ((laws_makeAwake.f kj5).bind fun t178 => (if t178 = true then (if 1 > 0 then (if ((1 + (Go.bits .and .u8 t177 3)) % 256) = a0 then (if (((Go.bits .and .u8 t177 4) != 0) == a2) = true then (if (((Go.bits .and .u8 t177 8) != 0) == a3) = true then (if (((Go.bits .and .u8 t177 16) != 0) == a4) = true then (some (((Go.bits .and .u8 t177 32) != 0) == a1)) else (some false)) else (some false)) else (some false)) else (some false)) else (some false)) else (some false))) else (if (t177 / 64) = 1 then ((laws_makeAwake.f kj5).bind fun t179 => (if t179 = true then (if 4 > 0 then (if ((4 + (Go.bits .and .u8 t177 3)) % 256) = a0 then (if (((Go.bits .and .u8 t177 4) != 0) == a2) = true then (if (((Go.bits .and .u8 t177 8) != 0) == a3) = true then (if (((Go.bits .and .u8 t177 16) != 0) == a4) = true then (some (((Go.bits .and .u8 t177 32) != 0) == a1)) else (some false)) else (some false)) else (some false)) else (some false)) else (some false)) else (some false))) else (if (t177 / 64) = 2 then ((laws_makeAwake.f kj5).bind fun t180 => (if t180 = true then (if 8 > 0 then (if ((8 + (Go.bits .and .u8 t177 3)) % 256) = a0 then (if (((Go.bits .and .u8 t177 4) != 0) == a2) = true then (if (((Go.bits .and .u8 t177 8) != 0) == a3) = true then (if (((Go.bits .and .u8 t177 16) != 0) == a4) = true then (some (((Go.bits .and .u8 t177 32) != 0) == a1)) else (some false)) else (some false)) else (some false)) else (some false)) else (some false)) else (some false))) else (if (t177 / 64) = 3 then ((laws_makeAwake.f kj5).bind fun t181 => (if t181 = true then (if 0 > 0 then (if ((0 + (Go.bits .and .u8 t177 3)) % 256) = a0 then (if (((Go.bits .and .u8 t177 4) != 0) == a2) = true then (if (((Go.bits .and .u8 t177 8) != 0) == a3) = true then (if (((Go.bits .and .u8 t177 16) != 0) == a4) = true then (some (((Go.bits .and .u8 t177 32) != 0) == a1)) else (some false)) else (some false)) else (some false)) else (some false)) else (some false)) else (some false))) else (none)))))) = some r := by rw [if_neg (show ¬ (false = true) by decide)] at H; exact H
        clear H
        have H := H1
        clear H1
        replace H := Option.bind_eq_some_iff.mp H
        obtain ⟨t177, A110, H⟩ := H
        replace H : (if (t177 / 64) = 0 then ((laws_makeAwake.f kj5).bind fun t178 => (if t178 = true then (if 1 > 0 then (if ((1 + (Go.bits .and .u8 t177 3)) % 256) = a0 then (if (((Go.bits .and .u8 t177 4) != 0) == a2) = true then (if (((Go.bits .and .u8 t177 8) != 0) == a3) = true then (if (((Go.bits .and .u8 t177 16) != 0) == a4) = true then (some (((Go.bits .and .u8 t177 32) != 0) == a1)) else (some false)) else (some false)) else (some false)) else (some false)) else (some false)) else (some false))) else (if (t177 / 64) = 1 then ((laws_makeAwake.f kj5).bind fun t179 => (if t179 = true then (if 4 > 0 then (if ((4 + (Go.bits .and .u8 t177 3)) % 256) = a0 then (if (((Go.bits .and .u8 t177 4) != 0) == a2) = true then (if (((Go.bits .and .u8 t177 8) != 0) == a3) = true then (if (((Go.bits .and .u8 t177 16) != 0) == a4) = true then (some (((Go.bits .and .u8 t177 32) != 0) == a1)) else (some false)) else (some false)) else (some false)) else (some false)) else (some false)) else (some false))) else (if (t177 / 64) = 2 then ((laws_makeAwake.f kj5).bind fun t180 => (if t180 = true then (if 8 > 0 then (if ((8 + (Go.bits .and .u8 t177 3)) % 256) = a0 then (if (((Go.bits .and .u8 t177 4) != 0) == a2) = true then (if (((Go.bits .and .u8 t177 8) != 0) == a3) = true then (if (((Go.bits .and .u8 t177 16) != 0) == a4) = true then (some (((Go.bits .and .u8 t177 32) != 0) == a1)) else (some false)) else (some false)) else (some false)) else (some false)) else (some false)) else (some false))) else (if (t177 / 64) = 3 then ((laws_makeAwake.f kj5).bind fun t181 => (if t181 = true then (if 0 > 0 then (if ((0 + (Go.bits .and .u8 t177 3)) % 256) = a0 then (if (((Go.bits .and .u8 t177 4) != 0) == a2) = true then (if (((Go.bits .and .u8 t177 8) != 0) == a3) = true then (if (((Go.bits .and .u8 t177 16) != 0) == a4) = true then (some (((Go.bits .and .u8 t177 32) != 0) == a1)) else (some false)) else (some false)) else (some false)) else (some false)) else (some false)) else (some false))) else (none))))) = some r := H
        have A11 := Aside0.mk A110
        clear A110
        by_cases c12 : (t177 / 64) = 0
        · rw [if_pos c12] at H
          have c12b0 : ((t177 / 64) == 0) = true := beq_iff_eq.mpr c12
          have c12b1 : ((t177 / 64) != 0) = false := bne_eq_false_iff_eq.mpr c12
          have c12b2 : ∀ w_, (Instr.index 29 (.agg #[.int .u8 1, .int .u8 4, .int .u8 8, .int .u8 0]) (.int .u8 (t177 / 64))).run Tryd.prog w_ = .ok (.int .u8 1) w_ := fun w_ => by rw [c12]; kernel_rfl
          clear c12
          replace H := Option.bind_eq_some_iff.mp H
          obtain ⟨t178, A130, H⟩ := H
          replace H : (if t178 = true then (if 1 > 0 then (if ((1 + (Go.bits .and .u8 t177 3)) % 256) = a0 then (if (((Go.bits .and .u8 t177 4) != 0) == a2) = true then (if (((Go.bits .and .u8 t177 8) != 0) == a3) = true then (if (((Go.bits .and .u8 t177 16) != 0) == a4) = true then (some (((Go.bits .and .u8 t177 32) != 0) == a1)) else (some false)) else (some false)) else (some false)) else (some false)) else (some false)) else (some false)) = some r := H
          have A13 := Aside0.mk A130
          clear A130
          by_cases c14 : t178 = true
          · subst c14
            have H1 : (if 1 > 0 then (if ((1 + (Go.bits .and .u8 t177 3)) % 256) = a0 then (if (((Go.bits .and .u8 t177 4) != 0) == a2) = true then (if (((Go.bits .and .u8 t177 8) != 0) == a3) = true then (if (((Go.bits .and .u8 t177 16) != 0) == a4) = true then (some (((Go.bits .and .u8 t177 32) != 0) == a1)) else (some false)) else (some false)) else (some false)) else (some false)) else (some false)) = some r := by rw [if_pos rfl] at H; exact H
            clear H
            have H := H1
            clear H1
            by_cases c15 : 1 > 0
            · rw [if_pos c15] at H
              have c15b0 : decide (0 < 1) = true := decide_eq_true c15
              clear c15
              by_cases c16 : ((1 + (Go.bits .and .u8 t177 3)) % 256) = a0
              · rw [if_pos c16] at H
                have c16b0 : (((1 + (Go.bits .and .u8 t177 3)) % 256) == a0) = true := beq_iff_eq.mpr c16
                have c16b1 : (((1 + (Go.bits .and .u8 t177 3)) % 256) != a0) = false := bne_eq_false_iff_eq.mpr c16
                clear c16
                by_cases c17 : (((Go.bits .and .u8 t177 4) != 0) == a2) = true
                · rw [if_pos c17] at H
                  have c17b0 : (((Go.bits .and .u8 t177 4) != 0) == a2) = true := c17
                  (try (have c17b1 : decide (((Go.bits .and .u8 t177 4) != 0) = a2) = true := by simpa using c17))
                  (try (have c17b2 : (((Go.bits .and .u8 t177 4) != 0) == a2) = true := by simpa using c17))
                  clear c17
                  by_cases c18 : (((Go.bits .and .u8 t177 8) != 0) == a3) = true
                  · rw [if_pos c18] at H
                    have c18b0 : (((Go.bits .and .u8 t177 8) != 0) == a3) = true := c18
                    (try (have c18b1 : decide (((Go.bits .and .u8 t177 8) != 0) = a3) = true := by simpa using c18))
                    (try (have c18b2 : (((Go.bits .and .u8 t177 8) != 0) == a3) = true := by simpa using c18))
                    clear c18
                    by_cases c19 : (((Go.bits .and .u8 t177 16) != 0) == a4) = true
                    · rw [if_pos c19] at H
                      have c19b0 : (((Go.bits .and .u8 t177 16) != 0) == a4) = true := c19
                      (try (have c19b1 : decide (((Go.bits .and .u8 t177 16) != 0) = a4) = true := by simpa using c19))
                      (try (have c19b2 : (((Go.bits .and .u8 t177 16) != 0) == a4) = true := by simpa using c19))
                      clear c19
                      obtain rfl := Option.some.inj H
                      go_wp2_with (first | ((with_reducible refine gate_callee (f := 13) rfl ?_); refine goesL_ (some 25) rfl rfl Tryd.func13 (by kernel_rfl) rfl #[.int .u8 a0, .bool a1, .bool a2, .bool a3, .bool a4] rfl (by (try simp only [List.map_toArray, List.map_cons, List.map_nil]); first | done | rfl | (simp only [List.length_drop, List.length_take]; rfl) | (simp [Act.eval, *]; done) | (simp [Act.eval, *]; unfold wrap64; omega)) ?_; (with_reducible refine (impl_ButtonOf.calls kj5 a0 a1 a2 a3 a4 t177 _ A11.out).mono ?_); rintro e w' ⟨rfl, ⟨nd, rfl⟩⟩; refine ⟨_, rfl, ?_⟩) | ((with_reducible refine gate_callee (f := 11) rfl ?_); refine goesL_ (some 30) rfl rfl Tryd.func11 (by kernel_rfl) rfl #[] rfl (by (try simp only [List.map_toArray, List.map_cons, List.map_nil]); first | done | rfl | (simp only [List.length_drop, List.length_take]; rfl) | (simp [Act.eval, *]; done) | (simp [Act.eval, *]; unfold wrap64; omega)) ?_; (with_reducible refine (laws_makeAwake.calls kj5  true _ ?side1 A13.out).mono ?_); (case side1 => exact HLD.out.below (by repeat (first | (with_reducible first | exact HB.out | apply below_alloc | apply Go.Proofs.YtohblegfpghejaaDoor.Ext.below_bytes | apply pw_below_drewN | apply below_drew1) | exact HB.out))); rintro e w20 ⟨rfl, hb⟩; refine ⟨_, rfl, ?_⟩; have n0_ := Aside0.mk (below_step (by repeat (first | (with_reducible first | exact HB.out | apply below_alloc | apply Go.Proofs.YtohblegfpghejaaDoor.Ext.below_bytes | apply pw_below_drewN | apply below_drew1) | exact HB.out)) hb); clear HB; have HB := n0_; clear n0_; (try clear hb); (try clear hb2); (try clear hk); (try clear hi)))
                      go_ret
                      exact ⟨by first | rfl | (simp [errW_none, errW_some] <;> rfl) | (simp [*, errW_none, errW_some] <;> rfl), by repeat (first | (with_reducible first | exact HB.out | apply below_alloc | apply Go.Proofs.YtohblegfpghejaaDoor.Ext.below_bytes | apply pw_below_drewN | apply below_drew1) | exact HB.out)⟩
                    · rw [if_neg c19] at H
                      have c19b0 : (((Go.bits .and .u8 t177 16) != 0) == a4) = false := by simpa using c19
                      (try (have c19b1 : decide (((Go.bits .and .u8 t177 16) != 0) = a4) = false := by simpa using c19))
                      (try (have c19b2 : (((Go.bits .and .u8 t177 16) != 0) == a4) = false := by simpa using c19))
                      (try (have c19b3 : ¬ (((Go.bits .and .u8 t177 16) != 0) = a4) := by simpa using c19))
                      clear c19
                      obtain rfl := Option.some.inj H
                      go_wp2_with (first | ((with_reducible refine gate_callee (f := 13) rfl ?_); refine goesL_ (some 25) rfl rfl Tryd.func13 (by kernel_rfl) rfl #[.int .u8 a0, .bool a1, .bool a2, .bool a3, .bool a4] rfl (by (try simp only [List.map_toArray, List.map_cons, List.map_nil]); first | done | rfl | (simp only [List.length_drop, List.length_take]; rfl) | (simp [Act.eval, *]; done) | (simp [Act.eval, *]; unfold wrap64; omega)) ?_; (with_reducible refine (impl_ButtonOf.calls kj5 a0 a1 a2 a3 a4 t177 _ A11.out).mono ?_); rintro e w' ⟨rfl, ⟨nd, rfl⟩⟩; refine ⟨_, rfl, ?_⟩) | ((with_reducible refine gate_callee (f := 11) rfl ?_); refine goesL_ (some 30) rfl rfl Tryd.func11 (by kernel_rfl) rfl #[] rfl (by (try simp only [List.map_toArray, List.map_cons, List.map_nil]); first | done | rfl | (simp only [List.length_drop, List.length_take]; rfl) | (simp [Act.eval, *]; done) | (simp [Act.eval, *]; unfold wrap64; omega)) ?_; (with_reducible refine (laws_makeAwake.calls kj5  true _ ?side1 A13.out).mono ?_); (case side1 => exact HLD.out.below (by repeat (first | (with_reducible first | exact HB.out | apply below_alloc | apply Go.Proofs.YtohblegfpghejaaDoor.Ext.below_bytes | apply pw_below_drewN | apply below_drew1) | exact HB.out))); rintro e w21 ⟨rfl, hb⟩; refine ⟨_, rfl, ?_⟩; have n0_ := Aside0.mk (below_step (by repeat (first | (with_reducible first | exact HB.out | apply below_alloc | apply Go.Proofs.YtohblegfpghejaaDoor.Ext.below_bytes | apply pw_below_drewN | apply below_drew1) | exact HB.out)) hb); clear HB; have HB := n0_; clear n0_; (try clear hb); (try clear hb2); (try clear hk); (try clear hi)))
                      go_ret
                      exact ⟨by first | rfl | (simp [errW_none, errW_some] <;> rfl) | (simp [*, errW_none, errW_some] <;> rfl), by repeat (first | (with_reducible first | exact HB.out | apply below_alloc | apply Go.Proofs.YtohblegfpghejaaDoor.Ext.below_bytes | apply pw_below_drewN | apply below_drew1) | exact HB.out)⟩
                  · rw [if_neg c18] at H
                    have c18b0 : (((Go.bits .and .u8 t177 8) != 0) == a3) = false := by simpa using c18
                    (try (have c18b1 : decide (((Go.bits .and .u8 t177 8) != 0) = a3) = false := by simpa using c18))
                    (try (have c18b2 : (((Go.bits .and .u8 t177 8) != 0) == a3) = false := by simpa using c18))
                    (try (have c18b3 : ¬ (((Go.bits .and .u8 t177 8) != 0) = a3) := by simpa using c18))
                    clear c18
                    obtain rfl := Option.some.inj H
                    go_wp2_with (first | ((with_reducible refine gate_callee (f := 13) rfl ?_); refine goesL_ (some 25) rfl rfl Tryd.func13 (by kernel_rfl) rfl #[.int .u8 a0, .bool a1, .bool a2, .bool a3, .bool a4] rfl (by (try simp only [List.map_toArray, List.map_cons, List.map_nil]); first | done | rfl | (simp only [List.length_drop, List.length_take]; rfl) | (simp [Act.eval, *]; done) | (simp [Act.eval, *]; unfold wrap64; omega)) ?_; (with_reducible refine (impl_ButtonOf.calls kj5 a0 a1 a2 a3 a4 t177 _ A11.out).mono ?_); rintro e w' ⟨rfl, ⟨nd, rfl⟩⟩; refine ⟨_, rfl, ?_⟩) | ((with_reducible refine gate_callee (f := 11) rfl ?_); refine goesL_ (some 30) rfl rfl Tryd.func11 (by kernel_rfl) rfl #[] rfl (by (try simp only [List.map_toArray, List.map_cons, List.map_nil]); first | done | rfl | (simp only [List.length_drop, List.length_take]; rfl) | (simp [Act.eval, *]; done) | (simp [Act.eval, *]; unfold wrap64; omega)) ?_; (with_reducible refine (laws_makeAwake.calls kj5  true _ ?side1 A13.out).mono ?_); (case side1 => exact HLD.out.below (by repeat (first | (with_reducible first | exact HB.out | apply below_alloc | apply Go.Proofs.YtohblegfpghejaaDoor.Ext.below_bytes | apply pw_below_drewN | apply below_drew1) | exact HB.out))); rintro e w22 ⟨rfl, hb⟩; refine ⟨_, rfl, ?_⟩; have n0_ := Aside0.mk (below_step (by repeat (first | (with_reducible first | exact HB.out | apply below_alloc | apply Go.Proofs.YtohblegfpghejaaDoor.Ext.below_bytes | apply pw_below_drewN | apply below_drew1) | exact HB.out)) hb); clear HB; have HB := n0_; clear n0_; (try clear hb); (try clear hb2); (try clear hk); (try clear hi)))
                    go_ret
                    exact ⟨by first | rfl | (simp [errW_none, errW_some] <;> rfl) | (simp [*, errW_none, errW_some] <;> rfl), by repeat (first | (with_reducible first | exact HB.out | apply below_alloc | apply Go.Proofs.YtohblegfpghejaaDoor.Ext.below_bytes | apply pw_below_drewN | apply below_drew1) | exact HB.out)⟩
                · rw [if_neg c17] at H
                  have c17b0 : (((Go.bits .and .u8 t177 4) != 0) == a2) = false := by simpa using c17
                  (try (have c17b1 : decide (((Go.bits .and .u8 t177 4) != 0) = a2) = false := by simpa using c17))
                  (try (have c17b2 : (((Go.bits .and .u8 t177 4) != 0) == a2) = false := by simpa using c17))
                  (try (have c17b3 : ¬ (((Go.bits .and .u8 t177 4) != 0) = a2) := by simpa using c17))
                  clear c17
                  obtain rfl := Option.some.inj H
                  go_wp2_with (first | ((with_reducible refine gate_callee (f := 13) rfl ?_); refine goesL_ (some 25) rfl rfl Tryd.func13 (by kernel_rfl) rfl #[.int .u8 a0, .bool a1, .bool a2, .bool a3, .bool a4] rfl (by (try simp only [List.map_toArray, List.map_cons, List.map_nil]); first | done | rfl | (simp only [List.length_drop, List.length_take]; rfl) | (simp [Act.eval, *]; done) | (simp [Act.eval, *]; unfold wrap64; omega)) ?_; (with_reducible refine (impl_ButtonOf.calls kj5 a0 a1 a2 a3 a4 t177 _ A11.out).mono ?_); rintro e w' ⟨rfl, ⟨nd, rfl⟩⟩; refine ⟨_, rfl, ?_⟩) | ((with_reducible refine gate_callee (f := 11) rfl ?_); refine goesL_ (some 30) rfl rfl Tryd.func11 (by kernel_rfl) rfl #[] rfl (by (try simp only [List.map_toArray, List.map_cons, List.map_nil]); first | done | rfl | (simp only [List.length_drop, List.length_take]; rfl) | (simp [Act.eval, *]; done) | (simp [Act.eval, *]; unfold wrap64; omega)) ?_; (with_reducible refine (laws_makeAwake.calls kj5  true _ ?side1 A13.out).mono ?_); (case side1 => exact HLD.out.below (by repeat (first | (with_reducible first | exact HB.out | apply below_alloc | apply Go.Proofs.YtohblegfpghejaaDoor.Ext.below_bytes | apply pw_below_drewN | apply below_drew1) | exact HB.out))); rintro e w23 ⟨rfl, hb⟩; refine ⟨_, rfl, ?_⟩; have n0_ := Aside0.mk (below_step (by repeat (first | (with_reducible first | exact HB.out | apply below_alloc | apply Go.Proofs.YtohblegfpghejaaDoor.Ext.below_bytes | apply pw_below_drewN | apply below_drew1) | exact HB.out)) hb); clear HB; have HB := n0_; clear n0_; (try clear hb); (try clear hb2); (try clear hk); (try clear hi)))
                  go_ret
                  exact ⟨by first | rfl | (simp [errW_none, errW_some] <;> rfl) | (simp [*, errW_none, errW_some] <;> rfl), by repeat (first | (with_reducible first | exact HB.out | apply below_alloc | apply Go.Proofs.YtohblegfpghejaaDoor.Ext.below_bytes | apply pw_below_drewN | apply below_drew1) | exact HB.out)⟩
              · rw [if_neg c16] at H
                have c16b0 : (((1 + (Go.bits .and .u8 t177 3)) % 256) == a0) = false := beq_eq_false_iff_ne.mpr c16
                have c16b1 : (((1 + (Go.bits .and .u8 t177 3)) % 256) != a0) = true := bne_iff_ne.mpr c16
                obtain rfl := Option.some.inj H
                go_wp2_with (first | ((with_reducible refine gate_callee (f := 13) rfl ?_); refine goesL_ (some 25) rfl rfl Tryd.func13 (by kernel_rfl) rfl #[.int .u8 a0, .bool a1, .bool a2, .bool a3, .bool a4] rfl (by (try simp only [List.map_toArray, List.map_cons, List.map_nil]); first | done | rfl | (simp only [List.length_drop, List.length_take]; rfl) | (simp [Act.eval, *]; done) | (simp [Act.eval, *]; unfold wrap64; omega)) ?_; (with_reducible refine (impl_ButtonOf.calls kj5 a0 a1 a2 a3 a4 t177 _ A11.out).mono ?_); rintro e w' ⟨rfl, ⟨nd, rfl⟩⟩; refine ⟨_, rfl, ?_⟩) | ((with_reducible refine gate_callee (f := 11) rfl ?_); refine goesL_ (some 30) rfl rfl Tryd.func11 (by kernel_rfl) rfl #[] rfl (by (try simp only [List.map_toArray, List.map_cons, List.map_nil]); first | done | rfl | (simp only [List.length_drop, List.length_take]; rfl) | (simp [Act.eval, *]; done) | (simp [Act.eval, *]; unfold wrap64; omega)) ?_; (with_reducible refine (laws_makeAwake.calls kj5  true _ ?side1 A13.out).mono ?_); (case side1 => exact HLD.out.below (by repeat (first | (with_reducible first | exact HB.out | apply below_alloc | apply Go.Proofs.YtohblegfpghejaaDoor.Ext.below_bytes | apply pw_below_drewN | apply below_drew1) | exact HB.out))); rintro e w24 ⟨rfl, hb⟩; refine ⟨_, rfl, ?_⟩; have n0_ := Aside0.mk (below_step (by repeat (first | (with_reducible first | exact HB.out | apply below_alloc | apply Go.Proofs.YtohblegfpghejaaDoor.Ext.below_bytes | apply pw_below_drewN | apply below_drew1) | exact HB.out)) hb); clear HB; have HB := n0_; clear n0_; (try clear hb); (try clear hb2); (try clear hk); (try clear hi)))
                go_ret
                exact ⟨by first | rfl | (simp [errW_none, errW_some] <;> rfl) | (simp [*, errW_none, errW_some] <;> rfl), by repeat (first | (with_reducible first | exact HB.out | apply below_alloc | apply Go.Proofs.YtohblegfpghejaaDoor.Ext.below_bytes | apply pw_below_drewN | apply below_drew1) | exact HB.out)⟩
            · exact absurd (by decide) c15
          · replace c14 := Bool.eq_false_iff.mpr c14
            subst c14
            have H1 : (some false) = some r := by rw [if_neg (show ¬ (false = true) by decide)] at H; exact H
            clear H
            have H := H1
            clear H1
            obtain rfl := Option.some.inj H
            go_wp2_with (first | ((with_reducible refine gate_callee (f := 13) rfl ?_); refine goesL_ (some 25) rfl rfl Tryd.func13 (by kernel_rfl) rfl #[.int .u8 a0, .bool a1, .bool a2, .bool a3, .bool a4] rfl (by (try simp only [List.map_toArray, List.map_cons, List.map_nil]); first | done | rfl | (simp only [List.length_drop, List.length_take]; rfl) | (simp [Act.eval, *]; done) | (simp [Act.eval, *]; unfold wrap64; omega)) ?_; (with_reducible refine (impl_ButtonOf.calls kj5 a0 a1 a2 a3 a4 t177 _ A11.out).mono ?_); rintro e w' ⟨rfl, ⟨nd, rfl⟩⟩; refine ⟨_, rfl, ?_⟩) | ((with_reducible refine gate_callee (f := 11) rfl ?_); refine goesL_ (some 30) rfl rfl Tryd.func11 (by kernel_rfl) rfl #[] rfl (by (try simp only [List.map_toArray, List.map_cons, List.map_nil]); first | done | rfl | (simp only [List.length_drop, List.length_take]; rfl) | (simp [Act.eval, *]; done) | (simp [Act.eval, *]; unfold wrap64; omega)) ?_; (with_reducible refine (laws_makeAwake.calls kj5  false _ ?side1 A13.out).mono ?_); (case side1 => exact HLD.out.below (by repeat (first | (with_reducible first | exact HB.out | apply below_alloc | apply Go.Proofs.YtohblegfpghejaaDoor.Ext.below_bytes | apply pw_below_drewN | apply below_drew1) | exact HB.out))); rintro e w26 ⟨rfl, hb⟩; refine ⟨_, rfl, ?_⟩; have n0_ := Aside0.mk (below_step (by repeat (first | (with_reducible first | exact HB.out | apply below_alloc | apply Go.Proofs.YtohblegfpghejaaDoor.Ext.below_bytes | apply pw_below_drewN | apply below_drew1) | exact HB.out)) hb); clear HB; have HB := n0_; clear n0_; (try clear hb); (try clear hb2); (try clear hk); (try clear hi)))
            go_ret
            exact ⟨by first | rfl | (simp [errW_none, errW_some] <;> rfl) | (simp [*, errW_none, errW_some] <;> rfl), by repeat (first | (with_reducible first | exact HB.out | apply below_alloc | apply Go.Proofs.YtohblegfpghejaaDoor.Ext.below_bytes | apply pw_below_drewN | apply below_drew1) | exact HB.out)⟩
        · rw [if_neg c12] at H
          have c12b0 : ((t177 / 64) == 0) = false := beq_eq_false_iff_ne.mpr c12
          have c12b1 : ((t177 / 64) != 0) = true := bne_iff_ne.mpr c12
          by_cases c27 : (t177 / 64) = 1
          · rw [if_pos c27] at H
            have c27b0 : ((t177 / 64) == 1) = true := beq_iff_eq.mpr c27
            have c27b1 : ((t177 / 64) != 1) = false := bne_eq_false_iff_eq.mpr c27
            have c27b2 : ∀ w_, (Instr.index 29 (.agg #[.int .u8 1, .int .u8 4, .int .u8 8, .int .u8 0]) (.int .u8 (t177 / 64))).run Tryd.prog w_ = .ok (.int .u8 4) w_ := fun w_ => by rw [c27]; kernel_rfl
            clear c27
            replace H := Option.bind_eq_some_iff.mp H
            obtain ⟨t179, A280, H⟩ := H
            replace H : (if t179 = true then (if 4 > 0 then (if ((4 + (Go.bits .and .u8 t177 3)) % 256) = a0 then (if (((Go.bits .and .u8 t177 4) != 0) == a2) = true then (if (((Go.bits .and .u8 t177 8) != 0) == a3) = true then (if (((Go.bits .and .u8 t177 16) != 0) == a4) = true then (some (((Go.bits .and .u8 t177 32) != 0) == a1)) else (some false)) else (some false)) else (some false)) else (some false)) else (some false)) else (some false)) = some r := H
            have A28 := Aside0.mk A280
            clear A280
            by_cases c29 : t179 = true
            · subst c29
              have H1 : (if 4 > 0 then (if ((4 + (Go.bits .and .u8 t177 3)) % 256) = a0 then (if (((Go.bits .and .u8 t177 4) != 0) == a2) = true then (if (((Go.bits .and .u8 t177 8) != 0) == a3) = true then (if (((Go.bits .and .u8 t177 16) != 0) == a4) = true then (some (((Go.bits .and .u8 t177 32) != 0) == a1)) else (some false)) else (some false)) else (some false)) else (some false)) else (some false)) = some r := by rw [if_pos rfl] at H; exact H
              clear H
              have H := H1
              clear H1
              by_cases c30 : 4 > 0
              · rw [if_pos c30] at H
                have c30b0 : decide (0 < 4) = true := decide_eq_true c30
                clear c30
                by_cases c31 : ((4 + (Go.bits .and .u8 t177 3)) % 256) = a0
                · rw [if_pos c31] at H
                  have c31b0 : (((4 + (Go.bits .and .u8 t177 3)) % 256) == a0) = true := beq_iff_eq.mpr c31
                  have c31b1 : (((4 + (Go.bits .and .u8 t177 3)) % 256) != a0) = false := bne_eq_false_iff_eq.mpr c31
                  clear c31
                  by_cases c32 : (((Go.bits .and .u8 t177 4) != 0) == a2) = true
                  · rw [if_pos c32] at H
                    have c32b0 : (((Go.bits .and .u8 t177 4) != 0) == a2) = true := c32
                    (try (have c32b1 : decide (((Go.bits .and .u8 t177 4) != 0) = a2) = true := by simpa using c32))
                    (try (have c32b2 : (((Go.bits .and .u8 t177 4) != 0) == a2) = true := by simpa using c32))
                    clear c32
                    by_cases c33 : (((Go.bits .and .u8 t177 8) != 0) == a3) = true
                    · rw [if_pos c33] at H
                      have c33b0 : (((Go.bits .and .u8 t177 8) != 0) == a3) = true := c33
                      (try (have c33b1 : decide (((Go.bits .and .u8 t177 8) != 0) = a3) = true := by simpa using c33))
                      (try (have c33b2 : (((Go.bits .and .u8 t177 8) != 0) == a3) = true := by simpa using c33))
                      clear c33
                      by_cases c34 : (((Go.bits .and .u8 t177 16) != 0) == a4) = true
                      · rw [if_pos c34] at H
                        have c34b0 : (((Go.bits .and .u8 t177 16) != 0) == a4) = true := c34
                        (try (have c34b1 : decide (((Go.bits .and .u8 t177 16) != 0) = a4) = true := by simpa using c34))
                        (try (have c34b2 : (((Go.bits .and .u8 t177 16) != 0) == a4) = true := by simpa using c34))
                        clear c34
                        obtain rfl := Option.some.inj H
                        go_wp2_with (first | ((with_reducible refine gate_callee (f := 13) rfl ?_); refine goesL_ (some 25) rfl rfl Tryd.func13 (by kernel_rfl) rfl #[.int .u8 a0, .bool a1, .bool a2, .bool a3, .bool a4] rfl (by (try simp only [List.map_toArray, List.map_cons, List.map_nil]); first | done | rfl | (simp only [List.length_drop, List.length_take]; rfl) | (simp [Act.eval, *]; done) | (simp [Act.eval, *]; unfold wrap64; omega)) ?_; (with_reducible refine (impl_ButtonOf.calls kj5 a0 a1 a2 a3 a4 t177 _ A11.out).mono ?_); rintro e w' ⟨rfl, ⟨nd, rfl⟩⟩; refine ⟨_, rfl, ?_⟩) | ((with_reducible refine gate_callee (f := 11) rfl ?_); refine goesL_ (some 30) rfl rfl Tryd.func11 (by kernel_rfl) rfl #[] rfl (by (try simp only [List.map_toArray, List.map_cons, List.map_nil]); first | done | rfl | (simp only [List.length_drop, List.length_take]; rfl) | (simp [Act.eval, *]; done) | (simp [Act.eval, *]; unfold wrap64; omega)) ?_; (with_reducible refine (laws_makeAwake.calls kj5  true _ ?side1 A28.out).mono ?_); (case side1 => exact HLD.out.below (by repeat (first | (with_reducible first | exact HB.out | apply below_alloc | apply Go.Proofs.YtohblegfpghejaaDoor.Ext.below_bytes | apply pw_below_drewN | apply below_drew1) | exact HB.out))); rintro e w35 ⟨rfl, hb⟩; refine ⟨_, rfl, ?_⟩; have n0_ := Aside0.mk (below_step (by repeat (first | (with_reducible first | exact HB.out | apply below_alloc | apply Go.Proofs.YtohblegfpghejaaDoor.Ext.below_bytes | apply pw_below_drewN | apply below_drew1) | exact HB.out)) hb); clear HB; have HB := n0_; clear n0_; (try clear hb); (try clear hb2); (try clear hk); (try clear hi)))
                        go_ret
                        exact ⟨by first | rfl | (simp [errW_none, errW_some] <;> rfl) | (simp [*, errW_none, errW_some] <;> rfl), by repeat (first | (with_reducible first | exact HB.out | apply below_alloc | apply Go.Proofs.YtohblegfpghejaaDoor.Ext.below_bytes | apply pw_below_drewN | apply below_drew1) | exact HB.out)⟩
                      · rw [if_neg c34] at H
                        have c34b0 : (((Go.bits .and .u8 t177 16) != 0) == a4) = false := by simpa using c34
                        (try (have c34b1 : decide (((Go.bits .and .u8 t177 16) != 0) = a4) = false := by simpa using c34))
                        (try (have c34b2 : (((Go.bits .and .u8 t177 16) != 0) == a4) = false := by simpa using c34))
                        (try (have c34b3 : ¬ (((Go.bits .and .u8 t177 16) != 0) = a4) := by simpa using c34))
                        clear c34
                        obtain rfl := Option.some.inj H
                        go_wp2_with (first | ((with_reducible refine gate_callee (f := 13) rfl ?_); refine goesL_ (some 25) rfl rfl Tryd.func13 (by kernel_rfl) rfl #[.int .u8 a0, .bool a1, .bool a2, .bool a3, .bool a4] rfl (by (try simp only [List.map_toArray, List.map_cons, List.map_nil]); first | done | rfl | (simp only [List.length_drop, List.length_take]; rfl) | (simp [Act.eval, *]; done) | (simp [Act.eval, *]; unfold wrap64; omega)) ?_; (with_reducible refine (impl_ButtonOf.calls kj5 a0 a1 a2 a3 a4 t177 _ A11.out).mono ?_); rintro e w' ⟨rfl, ⟨nd, rfl⟩⟩; refine ⟨_, rfl, ?_⟩) | ((with_reducible refine gate_callee (f := 11) rfl ?_); refine goesL_ (some 30) rfl rfl Tryd.func11 (by kernel_rfl) rfl #[] rfl (by (try simp only [List.map_toArray, List.map_cons, List.map_nil]); first | done | rfl | (simp only [List.length_drop, List.length_take]; rfl) | (simp [Act.eval, *]; done) | (simp [Act.eval, *]; unfold wrap64; omega)) ?_; (with_reducible refine (laws_makeAwake.calls kj5  true _ ?side1 A28.out).mono ?_); (case side1 => exact HLD.out.below (by repeat (first | (with_reducible first | exact HB.out | apply below_alloc | apply Go.Proofs.YtohblegfpghejaaDoor.Ext.below_bytes | apply pw_below_drewN | apply below_drew1) | exact HB.out))); rintro e w36 ⟨rfl, hb⟩; refine ⟨_, rfl, ?_⟩; have n0_ := Aside0.mk (below_step (by repeat (first | (with_reducible first | exact HB.out | apply below_alloc | apply Go.Proofs.YtohblegfpghejaaDoor.Ext.below_bytes | apply pw_below_drewN | apply below_drew1) | exact HB.out)) hb); clear HB; have HB := n0_; clear n0_; (try clear hb); (try clear hb2); (try clear hk); (try clear hi)))
                        go_ret
                        exact ⟨by first | rfl | (simp [errW_none, errW_some] <;> rfl) | (simp [*, errW_none, errW_some] <;> rfl), by repeat (first | (with_reducible first | exact HB.out | apply below_alloc | apply Go.Proofs.YtohblegfpghejaaDoor.Ext.below_bytes | apply pw_below_drewN | apply below_drew1) | exact HB.out)⟩
                    · rw [if_neg c33] at H
                      have c33b0 : (((Go.bits .and .u8 t177 8) != 0) == a3) = false := by simpa using c33
                      (try (have c33b1 : decide (((Go.bits .and .u8 t177 8) != 0) = a3) = false := by simpa using c33))
                      (try (have c33b2 : (((Go.bits .and .u8 t177 8) != 0) == a3) = false := by simpa using c33))
                      (try (have c33b3 : ¬ (((Go.bits .and .u8 t177 8) != 0) = a3) := by simpa using c33))
                      clear c33
                      obtain rfl := Option.some.inj H
                      go_wp2_with (first | ((with_reducible refine gate_callee (f := 13) rfl ?_); refine goesL_ (some 25) rfl rfl Tryd.func13 (by kernel_rfl) rfl #[.int .u8 a0, .bool a1, .bool a2, .bool a3, .bool a4] rfl (by (try simp only [List.map_toArray, List.map_cons, List.map_nil]); first | done | rfl | (simp only [List.length_drop, List.length_take]; rfl) | (simp [Act.eval, *]; done) | (simp [Act.eval, *]; unfold wrap64; omega)) ?_; (with_reducible refine (impl_ButtonOf.calls kj5 a0 a1 a2 a3 a4 t177 _ A11.out).mono ?_); rintro e w' ⟨rfl, ⟨nd, rfl⟩⟩; refine ⟨_, rfl, ?_⟩) | ((with_reducible refine gate_callee (f := 11) rfl ?_); refine goesL_ (some 30) rfl rfl Tryd.func11 (by kernel_rfl) rfl #[] rfl (by (try simp only [List.map_toArray, List.map_cons, List.map_nil]); first | done | rfl | (simp only [List.length_drop, List.length_take]; rfl) | (simp [Act.eval, *]; done) | (simp [Act.eval, *]; unfold wrap64; omega)) ?_; (with_reducible refine (laws_makeAwake.calls kj5  true _ ?side1 A28.out).mono ?_); (case side1 => exact HLD.out.below (by repeat (first | (with_reducible first | exact HB.out | apply below_alloc | apply Go.Proofs.YtohblegfpghejaaDoor.Ext.below_bytes | apply pw_below_drewN | apply below_drew1) | exact HB.out))); rintro e w37 ⟨rfl, hb⟩; refine ⟨_, rfl, ?_⟩; have n0_ := Aside0.mk (below_step (by repeat (first | (with_reducible first | exact HB.out | apply below_alloc | apply Go.Proofs.YtohblegfpghejaaDoor.Ext.below_bytes | apply pw_below_drewN | apply below_drew1) | exact HB.out)) hb); clear HB; have HB := n0_; clear n0_; (try clear hb); (try clear hb2); (try clear hk); (try clear hi)))
                      go_ret
                      exact ⟨by first | rfl | (simp [errW_none, errW_some] <;> rfl) | (simp [*, errW_none, errW_some] <;> rfl), by repeat (first | (with_reducible first | exact HB.out | apply below_alloc | apply Go.Proofs.YtohblegfpghejaaDoor.Ext.below_bytes | apply pw_below_drewN | apply below_drew1) | exact HB.out)⟩
                  · rw [if_neg c32] at H
                    have c32b0 : (((Go.bits .and .u8 t177 4) != 0) == a2) = false := by simpa using c32
                    (try (have c32b1 : decide (((Go.bits .and .u8 t177 4) != 0) = a2) = false := by simpa using c32))
                    (try (have c32b2 : (((Go.bits .and .u8 t177 4) != 0) == a2) = false := by simpa using c32))
                    (try (have c32b3 : ¬ (((Go.bits .and .u8 t177 4) != 0) = a2) := by simpa using c32))
                    clear c32
                    obtain rfl := Option.some.inj H
                    go_wp2_with (first | ((with_reducible refine gate_callee (f := 13) rfl ?_); refine goesL_ (some 25) rfl rfl Tryd.func13 (by kernel_rfl) rfl #[.int .u8 a0, .bool a1, .bool a2, .bool a3, .bool a4] rfl (by (try simp only [List.map_toArray, List.map_cons, List.map_nil]); first | done | rfl | (simp only [List.length_drop, List.length_take]; rfl) | (simp [Act.eval, *]; done) | (simp [Act.eval, *]; unfold wrap64; omega)) ?_; (with_reducible refine (impl_ButtonOf.calls kj5 a0 a1 a2 a3 a4 t177 _ A11.out).mono ?_); rintro e w' ⟨rfl, ⟨nd, rfl⟩⟩; refine ⟨_, rfl, ?_⟩) | ((with_reducible refine gate_callee (f := 11) rfl ?_); refine goesL_ (some 30) rfl rfl Tryd.func11 (by kernel_rfl) rfl #[] rfl (by (try simp only [List.map_toArray, List.map_cons, List.map_nil]); first | done | rfl | (simp only [List.length_drop, List.length_take]; rfl) | (simp [Act.eval, *]; done) | (simp [Act.eval, *]; unfold wrap64; omega)) ?_; (with_reducible refine (laws_makeAwake.calls kj5  true _ ?side1 A28.out).mono ?_); (case side1 => exact HLD.out.below (by repeat (first | (with_reducible first | exact HB.out | apply below_alloc | apply Go.Proofs.YtohblegfpghejaaDoor.Ext.below_bytes | apply pw_below_drewN | apply below_drew1) | exact HB.out))); rintro e w38 ⟨rfl, hb⟩; refine ⟨_, rfl, ?_⟩; have n0_ := Aside0.mk (below_step (by repeat (first | (with_reducible first | exact HB.out | apply below_alloc | apply Go.Proofs.YtohblegfpghejaaDoor.Ext.below_bytes | apply pw_below_drewN | apply below_drew1) | exact HB.out)) hb); clear HB; have HB := n0_; clear n0_; (try clear hb); (try clear hb2); (try clear hk); (try clear hi)))
                    go_ret
                    exact ⟨by first | rfl | (simp [errW_none, errW_some] <;> rfl) | (simp [*, errW_none, errW_some] <;> rfl), by repeat (first | (with_reducible first | exact HB.out | apply below_alloc | apply Go.Proofs.YtohblegfpghejaaDoor.Ext.below_bytes | apply pw_below_drewN | apply below_drew1) | exact HB.out)⟩
                · rw [if_neg c31] at H
                  have c31b0 : (((4 + (Go.bits .and .u8 t177 3)) % 256) == a0) = false := beq_eq_false_iff_ne.mpr c31
                  have c31b1 : (((4 + (Go.bits .and .u8 t177 3)) % 256) != a0) = true := bne_iff_ne.mpr c31
                  obtain rfl := Option.some.inj H
                  go_wp2_with (first | ((with_reducible refine gate_callee (f := 13) rfl ?_); refine goesL_ (some 25) rfl rfl Tryd.func13 (by kernel_rfl) rfl #[.int .u8 a0, .bool a1, .bool a2, .bool a3, .bool a4] rfl (by (try simp only [List.map_toArray, List.map_cons, List.map_nil]); first | done | rfl | (simp only [List.length_drop, List.length_take]; rfl) | (simp [Act.eval, *]; done) | (simp [Act.eval, *]; unfold wrap64; omega)) ?_; (with_reducible refine (impl_ButtonOf.calls kj5 a0 a1 a2 a3 a4 t177 _ A11.out).mono ?_); rintro e w' ⟨rfl, ⟨nd, rfl⟩⟩; refine ⟨_, rfl, ?_⟩) | ((with_reducible refine gate_callee (f := 11) rfl ?_); refine goesL_ (some 30) rfl rfl Tryd.func11 (by kernel_rfl) rfl #[] rfl (by (try simp only [List.map_toArray, List.map_cons, List.map_nil]); first | done | rfl | (simp only [List.length_drop, List.length_take]; rfl) | (simp [Act.eval, *]; done) | (simp [Act.eval, *]; unfold wrap64; omega)) ?_; (with_reducible refine (laws_makeAwake.calls kj5  true _ ?side1 A28.out).mono ?_); (case side1 => exact HLD.out.below (by repeat (first | (with_reducible first | exact HB.out | apply below_alloc | apply Go.Proofs.YtohblegfpghejaaDoor.Ext.below_bytes | apply pw_below_drewN | apply below_drew1) | exact HB.out))); rintro e w39 ⟨rfl, hb⟩; refine ⟨_, rfl, ?_⟩; have n0_ := Aside0.mk (below_step (by repeat (first | (with_reducible first | exact HB.out | apply below_alloc | apply Go.Proofs.YtohblegfpghejaaDoor.Ext.below_bytes | apply pw_below_drewN | apply below_drew1) | exact HB.out)) hb); clear HB; have HB := n0_; clear n0_; (try clear hb); (try clear hb2); (try clear hk); (try clear hi)))
                  go_ret
                  exact ⟨by first | rfl | (simp [errW_none, errW_some] <;> rfl) | (simp [*, errW_none, errW_some] <;> rfl), by repeat (first | (with_reducible first | exact HB.out | apply below_alloc | apply Go.Proofs.YtohblegfpghejaaDoor.Ext.below_bytes | apply pw_below_drewN | apply below_drew1) | exact HB.out)⟩
              · exact absurd (by decide) c30
            · replace c29 := Bool.eq_false_iff.mpr c29
              subst c29
              have H1 : (some false) = some r := by rw [if_neg (show ¬ (false = true) by decide)] at H; exact H
              clear H
              have H := H1
              clear H1
              obtain rfl := Option.some.inj H
              go_wp2_with (first | ((with_reducible refine gate_callee (f := 13) rfl ?_); refine goesL_ (some 25) rfl rfl Tryd.func13 (by kernel_rfl) rfl #[.int .u8 a0, .bool a1, .bool a2, .bool a3, .bool a4] rfl (by (try simp only [List.map_toArray, List.map_cons, List.map_nil]); first | done | rfl | (simp only [List.length_drop, List.length_take]; rfl) | (simp [Act.eval, *]; done) | (simp [Act.eval, *]; unfold wrap64; omega)) ?_; (with_reducible refine (impl_ButtonOf.calls kj5 a0 a1 a2 a3 a4 t177 _ A11.out).mono ?_); rintro e w' ⟨rfl, ⟨nd, rfl⟩⟩; refine ⟨_, rfl, ?_⟩) | ((with_reducible refine gate_callee (f := 11) rfl ?_); refine goesL_ (some 30) rfl rfl Tryd.func11 (by kernel_rfl) rfl #[] rfl (by (try simp only [List.map_toArray, List.map_cons, List.map_nil]); first | done | rfl | (simp only [List.length_drop, List.length_take]; rfl) | (simp [Act.eval, *]; done) | (simp [Act.eval, *]; unfold wrap64; omega)) ?_; (with_reducible refine (laws_makeAwake.calls kj5  false _ ?side1 A28.out).mono ?_); (case side1 => exact HLD.out.below (by repeat (first | (with_reducible first | exact HB.out | apply below_alloc | apply Go.Proofs.YtohblegfpghejaaDoor.Ext.below_bytes | apply pw_below_drewN | apply below_drew1) | exact HB.out))); rintro e w41 ⟨rfl, hb⟩; refine ⟨_, rfl, ?_⟩; have n0_ := Aside0.mk (below_step (by repeat (first | (with_reducible first | exact HB.out | apply below_alloc | apply Go.Proofs.YtohblegfpghejaaDoor.Ext.below_bytes | apply pw_below_drewN | apply below_drew1) | exact HB.out)) hb); clear HB; have HB := n0_; clear n0_; (try clear hb); (try clear hb2); (try clear hk); (try clear hi)))
              go_ret
              exact ⟨by first | rfl | (simp [errW_none, errW_some] <;> rfl) | (simp [*, errW_none, errW_some] <;> rfl), by repeat (first | (with_reducible first | exact HB.out | apply below_alloc | apply Go.Proofs.YtohblegfpghejaaDoor.Ext.below_bytes | apply pw_below_drewN | apply below_drew1) | exact HB.out)⟩
          · rw [if_neg c27] at H
            have c27b0 : ((t177 / 64) == 1) = false := beq_eq_false_iff_ne.mpr c27
            have c27b1 : ((t177 / 64) != 1) = true := bne_iff_ne.mpr c27
            by_cases c42 : (t177 / 64) = 2
            · rw [if_pos c42] at H
              have c42b0 : ((t177 / 64) == 2) = true := beq_iff_eq.mpr c42
              have c42b1 : ((t177 / 64) != 2) = false := bne_eq_false_iff_eq.mpr c42
              have c42b2 : ∀ w_, (Instr.index 29 (.agg #[.int .u8 1, .int .u8 4, .int .u8 8, .int .u8 0]) (.int .u8 (t177 / 64))).run Tryd.prog w_ = .ok (.int .u8 8) w_ := fun w_ => by rw [c42]; kernel_rfl
              clear c42
              replace H := Option.bind_eq_some_iff.mp H
              obtain ⟨t180, A430, H⟩ := H
              replace H : (if t180 = true then (if 8 > 0 then (if ((8 + (Go.bits .and .u8 t177 3)) % 256) = a0 then (if (((Go.bits .and .u8 t177 4) != 0) == a2) = true then (if (((Go.bits .and .u8 t177 8) != 0) == a3) = true then (if (((Go.bits .and .u8 t177 16) != 0) == a4) = true then (some (((Go.bits .and .u8 t177 32) != 0) == a1)) else (some false)) else (some false)) else (some false)) else (some false)) else (some false)) else (some false)) = some r := H
              have A43 := Aside0.mk A430
              clear A430
              by_cases c44 : t180 = true
              · subst c44
                have H1 : (if 8 > 0 then (if ((8 + (Go.bits .and .u8 t177 3)) % 256) = a0 then (if (((Go.bits .and .u8 t177 4) != 0) == a2) = true then (if (((Go.bits .and .u8 t177 8) != 0) == a3) = true then (if (((Go.bits .and .u8 t177 16) != 0) == a4) = true then (some (((Go.bits .and .u8 t177 32) != 0) == a1)) else (some false)) else (some false)) else (some false)) else (some false)) else (some false)) = some r := by rw [if_pos rfl] at H; exact H
                clear H
                have H := H1
                clear H1
                by_cases c45 : 8 > 0
                · rw [if_pos c45] at H
                  have c45b0 : decide (0 < 8) = true := decide_eq_true c45
                  clear c45
                  by_cases c46 : ((8 + (Go.bits .and .u8 t177 3)) % 256) = a0
                  · rw [if_pos c46] at H
                    have c46b0 : (((8 + (Go.bits .and .u8 t177 3)) % 256) == a0) = true := beq_iff_eq.mpr c46
                    have c46b1 : (((8 + (Go.bits .and .u8 t177 3)) % 256) != a0) = false := bne_eq_false_iff_eq.mpr c46
                    clear c46
                    by_cases c47 : (((Go.bits .and .u8 t177 4) != 0) == a2) = true
                    · rw [if_pos c47] at H
                      have c47b0 : (((Go.bits .and .u8 t177 4) != 0) == a2) = true := c47
                      (try (have c47b1 : decide (((Go.bits .and .u8 t177 4) != 0) = a2) = true := by simpa using c47))
                      (try (have c47b2 : (((Go.bits .and .u8 t177 4) != 0) == a2) = true := by simpa using c47))
                      clear c47
                      by_cases c48 : (((Go.bits .and .u8 t177 8) != 0) == a3) = true
                      · rw [if_pos c48] at H
                        have c48b0 : (((Go.bits .and .u8 t177 8) != 0) == a3) = true := c48
                        (try (have c48b1 : decide (((Go.bits .and .u8 t177 8) != 0) = a3) = true := by simpa using c48))
                        (try (have c48b2 : (((Go.bits .and .u8 t177 8) != 0) == a3) = true := by simpa using c48))
                        clear c48
                        by_cases c49 : (((Go.bits .and .u8 t177 16) != 0) == a4) = true
                        · rw [if_pos c49] at H
                          have c49b0 : (((Go.bits .and .u8 t177 16) != 0) == a4) = true := c49
                          (try (have c49b1 : decide (((Go.bits .and .u8 t177 16) != 0) = a4) = true := by simpa using c49))
                          (try (have c49b2 : (((Go.bits .and .u8 t177 16) != 0) == a4) = true := by simpa using c49))
                          clear c49
                          obtain rfl := Option.some.inj H
                          go_wp2_with (first | ((with_reducible refine gate_callee (f := 13) rfl ?_); refine goesL_ (some 25) rfl rfl Tryd.func13 (by kernel_rfl) rfl #[.int .u8 a0, .bool a1, .bool a2, .bool a3, .bool a4] rfl (by (try simp only [List.map_toArray, List.map_cons, List.map_nil]); first | done | rfl | (simp only [List.length_drop, List.length_take]; rfl) | (simp [Act.eval, *]; done) | (simp [Act.eval, *]; unfold wrap64; omega)) ?_; (with_reducible refine (impl_ButtonOf.calls kj5 a0 a1 a2 a3 a4 t177 _ A11.out).mono ?_); rintro e w' ⟨rfl, ⟨nd, rfl⟩⟩; refine ⟨_, rfl, ?_⟩) | ((with_reducible refine gate_callee (f := 11) rfl ?_); refine goesL_ (some 30) rfl rfl Tryd.func11 (by kernel_rfl) rfl #[] rfl (by (try simp only [List.map_toArray, List.map_cons, List.map_nil]); first | done | rfl | (simp only [List.length_drop, List.length_take]; rfl) | (simp [Act.eval, *]; done) | (simp [Act.eval, *]; unfold wrap64; omega)) ?_; (with_reducible refine (laws_makeAwake.calls kj5  true _ ?side1 A43.out).mono ?_); (case side1 => exact HLD.out.below (by repeat (first | (with_reducible first | exact HB.out | apply below_alloc | apply Go.Proofs.YtohblegfpghejaaDoor.Ext.below_bytes | apply pw_below_drewN | apply below_drew1) | exact HB.out))); rintro e w50 ⟨rfl, hb⟩; refine ⟨_, rfl, ?_⟩; have n0_ := Aside0.mk (below_step (by repeat (first | (with_reducible first | exact HB.out | apply below_alloc | apply Go.Proofs.YtohblegfpghejaaDoor.Ext.below_bytes | apply pw_below_drewN | apply below_drew1) | exact HB.out)) hb); clear HB; have HB := n0_; clear n0_; (try clear hb); (try clear hb2); (try clear hk); (try clear hi)))
                          go_ret
                          exact ⟨by first | rfl | (simp [errW_none, errW_some] <;> rfl) | (simp [*, errW_none, errW_some] <;> rfl), by repeat (first | (with_reducible first | exact HB.out | apply below_alloc | apply Go.Proofs.YtohblegfpghejaaDoor.Ext.below_bytes | apply pw_below_drewN | apply below_drew1) | exact HB.out)⟩
                        · rw [if_neg c49] at H
                          have c49b0 : (((Go.bits .and .u8 t177 16) != 0) == a4) = false := by simpa using c49
                          (try (have c49b1 : decide (((Go.bits .and .u8 t177 16) != 0) = a4) = false := by simpa using c49))
                          (try (have c49b2 : (((Go.bits .and .u8 t177 16) != 0) == a4) = false := by simpa using c49))
                          (try (have c49b3 : ¬ (((Go.bits .and .u8 t177 16) != 0) = a4) := by simpa using c49))
                          clear c49
                          obtain rfl := Option.some.inj H
                          go_wp2_with (first | ((with_reducible refine gate_callee (f := 13) rfl ?_); refine goesL_ (some 25) rfl rfl Tryd.func13 (by kernel_rfl) rfl #[.int .u8 a0, .bool a1, .bool a2, .bool a3, .bool a4] rfl (by (try simp only [List.map_toArray, List.map_cons, List.map_nil]); first | done | rfl | (simp only [List.length_drop, List.length_take]; rfl) | (simp [Act.eval, *]; done) | (simp [Act.eval, *]; unfold wrap64; omega)) ?_; (with_reducible refine (impl_ButtonOf.calls kj5 a0 a1 a2 a3 a4 t177 _ A11.out).mono ?_); rintro e w' ⟨rfl, ⟨nd, rfl⟩⟩; refine ⟨_, rfl, ?_⟩) | ((with_reducible refine gate_callee (f := 11) rfl ?_); refine goesL_ (some 30) rfl rfl Tryd.func11 (by kernel_rfl) rfl #[] rfl (by (try simp only [List.map_toArray, List.map_cons, List.map_nil]); first | done | rfl | (simp only [List.length_drop, List.length_take]; rfl) | (simp [Act.eval, *]; done) | (simp [Act.eval, *]; unfold wrap64; omega)) ?_; (with_reducible refine (laws_makeAwake.calls kj5  true _ ?side1 A43.out).mono ?_); (case side1 => exact HLD.out.below (by repeat (first | (with_reducible first | exact HB.out | apply below_alloc | apply Go.Proofs.YtohblegfpghejaaDoor.Ext.below_bytes | apply pw_below_drewN | apply below_drew1) | exact HB.out))); rintro e w51 ⟨rfl, hb⟩; refine ⟨_, rfl, ?_⟩; have n0_ := Aside0.mk (below_step (by repeat (first | (with_reducible first | exact HB.out | apply below_alloc | apply Go.Proofs.YtohblegfpghejaaDoor.Ext.below_bytes | apply pw_below_drewN | apply below_drew1) | exact HB.out)) hb); clear HB; have HB := n0_; clear n0_; (try clear hb); (try clear hb2); (try clear hk); (try clear hi)))
                          go_ret
                          exact ⟨by first | rfl | (simp [errW_none, errW_some] <;> rfl) | (simp [*, errW_none, errW_some] <;> rfl), by repeat (first | (with_reducible first | exact HB.out | apply below_alloc | apply Go.Proofs.YtohblegfpghejaaDoor.Ext.below_bytes | apply pw_below_drewN | apply below_drew1) | exact HB.out)⟩
                      · rw [if_neg c48] at H
                        have c48b0 : (((Go.bits .and .u8 t177 8) != 0) == a3) = false := by simpa using c48
                        (try (have c48b1 : decide (((Go.bits .and .u8 t177 8) != 0) = a3) = false := by simpa using c48))
                        (try (have c48b2 : (((Go.bits .and .u8 t177 8) != 0) == a3) = false := by simpa using c48))
                        (try (have c48b3 : ¬ (((Go.bits .and .u8 t177 8) != 0) = a3) := by simpa using c48))
                        clear c48
                        obtain rfl := Option.some.inj H
                        go_wp2_with (first | ((with_reducible refine gate_callee (f := 13) rfl ?_); refine goesL_ (some 25) rfl rfl Tryd.func13 (by kernel_rfl) rfl #[.int .u8 a0, .bool a1, .bool a2, .bool a3, .bool a4] rfl (by (try simp only [List.map_toArray, List.map_cons, List.map_nil]); first | done | rfl | (simp only [List.length_drop, List.length_take]; rfl) | (simp [Act.eval, *]; done) | (simp [Act.eval, *]; unfold wrap64; omega)) ?_; (with_reducible refine (impl_ButtonOf.calls kj5 a0 a1 a2 a3 a4 t177 _ A11.out).mono ?_); rintro e w' ⟨rfl, ⟨nd, rfl⟩⟩; refine ⟨_, rfl, ?_⟩) | ((with_reducible refine gate_callee (f := 11) rfl ?_); refine goesL_ (some 30) rfl rfl Tryd.func11 (by kernel_rfl) rfl #[] rfl (by (try simp only [List.map_toArray, List.map_cons, List.map_nil]); first | done | rfl | (simp only [List.length_drop, List.length_take]; rfl) | (simp [Act.eval, *]; done) | (simp [Act.eval, *]; unfold wrap64; omega)) ?_; (with_reducible refine (laws_makeAwake.calls kj5  true _ ?side1 A43.out).mono ?_); (case side1 => exact HLD.out.below (by repeat (first | (with_reducible first | exact HB.out | apply below_alloc | apply Go.Proofs.YtohblegfpghejaaDoor.Ext.below_bytes | apply pw_below_drewN | apply below_drew1) | exact HB.out))); rintro e w52 ⟨rfl, hb⟩; refine ⟨_, rfl, ?_⟩; have n0_ := Aside0.mk (below_step (by repeat (first | (with_reducible first | exact HB.out | apply below_alloc | apply Go.Proofs.YtohblegfpghejaaDoor.Ext.below_bytes | apply pw_below_drewN | apply below_drew1) | exact HB.out)) hb); clear HB; have HB := n0_; clear n0_; (try clear hb); (try clear hb2); (try clear hk); (try clear hi)))
                        go_ret
                        exact ⟨by first | rfl | (simp [errW_none, errW_some] <;> rfl) | (simp [*, errW_none, errW_some] <;> rfl), by repeat (first | (with_reducible first | exact HB.out | apply below_alloc | apply Go.Proofs.YtohblegfpghejaaDoor.Ext.below_bytes | apply pw_below_drewN | apply below_drew1) | exact HB.out)⟩
                    · rw [if_neg c47] at H
                      have c47b0 : (((Go.bits .and .u8 t177 4) != 0) == a2) = false := by simpa using c47
                      (try (have c47b1 : decide (((Go.bits .and .u8 t177 4) != 0) = a2) = false := by simpa using c47))
                      (try (have c47b2 : (((Go.bits .and .u8 t177 4) != 0) == a2) = false := by simpa using c47))
                      (try (have c47b3 : ¬ (((Go.bits .and .u8 t177 4) != 0) = a2) := by simpa using c47))
                      clear c47
                      obtain rfl := Option.some.inj H
                      go_wp2_with (first | ((with_reducible refine gate_callee (f := 13) rfl ?_); refine goesL_ (some 25) rfl rfl Tryd.func13 (by kernel_rfl) rfl #[.int .u8 a0, .bool a1, .bool a2, .bool a3, .bool a4] rfl (by (try simp only [List.map_toArray, List.map_cons, List.map_nil]); first | done | rfl | (simp only [List.length_drop, List.length_take]; rfl) | (simp [Act.eval, *]; done) | (simp [Act.eval, *]; unfold wrap64; omega)) ?_; (with_reducible refine (impl_ButtonOf.calls kj5 a0 a1 a2 a3 a4 t177 _ A11.out).mono ?_); rintro e w' ⟨rfl, ⟨nd, rfl⟩⟩; refine ⟨_, rfl, ?_⟩) | ((with_reducible refine gate_callee (f := 11) rfl ?_); refine goesL_ (some 30) rfl rfl Tryd.func11 (by kernel_rfl) rfl #[] rfl (by (try simp only [List.map_toArray, List.map_cons, List.map_nil]); first | done | rfl | (simp only [List.length_drop, List.length_take]; rfl) | (simp [Act.eval, *]; done) | (simp [Act.eval, *]; unfold wrap64; omega)) ?_; (with_reducible refine (laws_makeAwake.calls kj5  true _ ?side1 A43.out).mono ?_); (case side1 => exact HLD.out.below (by repeat (first | (with_reducible first | exact HB.out | apply below_alloc | apply Go.Proofs.YtohblegfpghejaaDoor.Ext.below_bytes | apply pw_below_drewN | apply below_drew1) | exact HB.out))); rintro e w53 ⟨rfl, hb⟩; refine ⟨_, rfl, ?_⟩; have n0_ := Aside0.mk (below_step (by repeat (first | (with_reducible first | exact HB.out | apply below_alloc | apply Go.Proofs.YtohblegfpghejaaDoor.Ext.below_bytes | apply pw_below_drewN | apply below_drew1) | exact HB.out)) hb); clear HB; have HB := n0_; clear n0_; (try clear hb); (try clear hb2); (try clear hk); (try clear hi)))
                      go_ret
                      exact ⟨by first | rfl | (simp [errW_none, errW_some] <;> rfl) | (simp [*, errW_none, errW_some] <;> rfl), by repeat (first | (with_reducible first | exact HB.out | apply below_alloc | apply Go.Proofs.YtohblegfpghejaaDoor.Ext.below_bytes | apply pw_below_drewN | apply below_drew1) | exact HB.out)⟩
                  · rw [if_neg c46] at H
                    have c46b0 : (((8 + (Go.bits .and .u8 t177 3)) % 256) == a0) = false := beq_eq_false_iff_ne.mpr c46
                    have c46b1 : (((8 + (Go.bits .and .u8 t177 3)) % 256) != a0) = true := bne_iff_ne.mpr c46
                    obtain rfl := Option.some.inj H
                    go_wp2_with (first | ((with_reducible refine gate_callee (f := 13) rfl ?_); refine goesL_ (some 25) rfl rfl Tryd.func13 (by kernel_rfl) rfl #[.int .u8 a0, .bool a1, .bool a2, .bool a3, .bool a4] rfl (by (try simp only [List.map_toArray, List.map_cons, List.map_nil]); first | done | rfl | (simp only [List.length_drop, List.length_take]; rfl) | (simp [Act.eval, *]; done) | (simp [Act.eval, *]; unfold wrap64; omega)) ?_; (with_reducible refine (impl_ButtonOf.calls kj5 a0 a1 a2 a3 a4 t177 _ A11.out).mono ?_); rintro e w' ⟨rfl, ⟨nd, rfl⟩⟩; refine ⟨_, rfl, ?_⟩) | ((with_reducible refine gate_callee (f := 11) rfl ?_); refine goesL_ (some 30) rfl rfl Tryd.func11 (by kernel_rfl) rfl #[] rfl (by (try simp only [List.map_toArray, List.map_cons, List.map_nil]); first | done | rfl | (simp only [List.length_drop, List.length_take]; rfl) | (simp [Act.eval, *]; done) | (simp [Act.eval, *]; unfold wrap64; omega)) ?_; (with_reducible refine (laws_makeAwake.calls kj5  true _ ?side1 A43.out).mono ?_); (case side1 => exact HLD.out.below (by repeat (first | (with_reducible first | exact HB.out | apply below_alloc | apply Go.Proofs.YtohblegfpghejaaDoor.Ext.below_bytes | apply pw_below_drewN | apply below_drew1) | exact HB.out))); rintro e w54 ⟨rfl, hb⟩; refine ⟨_, rfl, ?_⟩; have n0_ := Aside0.mk (below_step (by repeat (first | (with_reducible first | exact HB.out | apply below_alloc | apply Go.Proofs.YtohblegfpghejaaDoor.Ext.below_bytes | apply pw_below_drewN | apply below_drew1) | exact HB.out)) hb); clear HB; have HB := n0_; clear n0_; (try clear hb); (try clear hb2); (try clear hk); (try clear hi)))
                    go_ret
                    exact ⟨by first | rfl | (simp [errW_none, errW_some] <;> rfl) | (simp [*, errW_none, errW_some] <;> rfl), by repeat (first | (with_reducible first | exact HB.out | apply below_alloc | apply Go.Proofs.YtohblegfpghejaaDoor.Ext.below_bytes | apply pw_below_drewN | apply below_drew1) | exact HB.out)⟩
                · exact absurd (by decide) c45
              · replace c44 := Bool.eq_false_iff.mpr c44
                subst c44
                have H1 : (some false) = some r := by rw [if_neg (show ¬ (false = true) by decide)] at H; exact H
                clear H
                have H := H1
                clear H1
                obtain rfl := Option.some.inj H
                go_wp2_with (first | ((with_reducible refine gate_callee (f := 13) rfl ?_); refine goesL_ (some 25) rfl rfl Tryd.func13 (by kernel_rfl) rfl #[.int .u8 a0, .bool a1, .bool a2, .bool a3, .bool a4] rfl (by (try simp only [List.map_toArray, List.map_cons, List.map_nil]); first | done | rfl | (simp only [List.length_drop, List.length_take]; rfl) | (simp [Act.eval, *]; done) | (simp [Act.eval, *]; unfold wrap64; omega)) ?_; (with_reducible refine (impl_ButtonOf.calls kj5 a0 a1 a2 a3 a4 t177 _ A11.out).mono ?_); rintro e w' ⟨rfl, ⟨nd, rfl⟩⟩; refine ⟨_, rfl, ?_⟩) | ((with_reducible refine gate_callee (f := 11) rfl ?_); refine goesL_ (some 30) rfl rfl Tryd.func11 (by kernel_rfl) rfl #[] rfl (by (try simp only [List.map_toArray, List.map_cons, List.map_nil]); first | done | rfl | (simp only [List.length_drop, List.length_take]; rfl) | (simp [Act.eval, *]; done) | (simp [Act.eval, *]; unfold wrap64; omega)) ?_; (with_reducible refine (laws_makeAwake.calls kj5  false _ ?side1 A43.out).mono ?_); (case side1 => exact HLD.out.below (by repeat (first | (with_reducible first | exact HB.out | apply below_alloc | apply Go.Proofs.YtohblegfpghejaaDoor.Ext.below_bytes | apply pw_below_drewN | apply below_drew1) | exact HB.out))); rintro e w56 ⟨rfl, hb⟩; refine ⟨_, rfl, ?_⟩; have n0_ := Aside0.mk (below_step (by repeat (first | (with_reducible first | exact HB.out | apply below_alloc | apply Go.Proofs.YtohblegfpghejaaDoor.Ext.below_bytes | apply pw_below_drewN | apply below_drew1) | exact HB.out)) hb); clear HB; have HB := n0_; clear n0_; (try clear hb); (try clear hb2); (try clear hk); (try clear hi)))
                go_ret
                exact ⟨by first | rfl | (simp [errW_none, errW_some] <;> rfl) | (simp [*, errW_none, errW_some] <;> rfl), by repeat (first | (with_reducible first | exact HB.out | apply below_alloc | apply Go.Proofs.YtohblegfpghejaaDoor.Ext.below_bytes | apply pw_below_drewN | apply below_drew1) | exact HB.out)⟩
            · rw [if_neg c42] at H
              have c42b0 : ((t177 / 64) == 2) = false := beq_eq_false_iff_ne.mpr c42
              have c42b1 : ((t177 / 64) != 2) = true := bne_iff_ne.mpr c42
              by_cases c57 : (t177 / 64) = 3
              · rw [if_pos c57] at H
                have c57b0 : ((t177 / 64) == 3) = true := beq_iff_eq.mpr c57
                have c57b1 : ((t177 / 64) != 3) = false := bne_eq_false_iff_eq.mpr c57
                have c57b2 : ∀ w_, (Instr.index 29 (.agg #[.int .u8 1, .int .u8 4, .int .u8 8, .int .u8 0]) (.int .u8 (t177 / 64))).run Tryd.prog w_ = .ok (.int .u8 0) w_ := fun w_ => by rw [c57]; kernel_rfl
                clear c57
                replace H := Option.bind_eq_some_iff.mp H
                obtain ⟨t181, A580, H⟩ := H
                replace H : (if t181 = true then (if 0 > 0 then (if ((0 + (Go.bits .and .u8 t177 3)) % 256) = a0 then (if (((Go.bits .and .u8 t177 4) != 0) == a2) = true then (if (((Go.bits .and .u8 t177 8) != 0) == a3) = true then (if (((Go.bits .and .u8 t177 16) != 0) == a4) = true then (some (((Go.bits .and .u8 t177 32) != 0) == a1)) else (some false)) else (some false)) else (some false)) else (some false)) else (some false)) else (some false)) = some r := H
                have A58 := Aside0.mk A580
                clear A580
                by_cases c59 : t181 = true
                · subst c59
                  have H1 : (if 0 > 0 then (if ((0 + (Go.bits .and .u8 t177 3)) % 256) = a0 then (if (((Go.bits .and .u8 t177 4) != 0) == a2) = true then (if (((Go.bits .and .u8 t177 8) != 0) == a3) = true then (if (((Go.bits .and .u8 t177 16) != 0) == a4) = true then (some (((Go.bits .and .u8 t177 32) != 0) == a1)) else (some false)) else (some false)) else (some false)) else (some false)) else (some false)) = some r := by rw [if_pos rfl] at H; exact H
                  clear H
                  have H := H1
                  clear H1
                  by_cases c60 : 0 > 0
                  · exact absurd c60 (by decide)
                  · rw [if_neg c60] at H
                    have c60b0 : decide (0 < 0) = false := decide_eq_false c60
                    clear c60
                    obtain rfl := Option.some.inj H
                    go_wp2_with (first | ((with_reducible refine gate_callee (f := 13) rfl ?_); refine goesL_ (some 25) rfl rfl Tryd.func13 (by kernel_rfl) rfl #[.int .u8 a0, .bool a1, .bool a2, .bool a3, .bool a4] rfl (by (try simp only [List.map_toArray, List.map_cons, List.map_nil]); first | done | rfl | (simp only [List.length_drop, List.length_take]; rfl) | (simp [Act.eval, *]; done) | (simp [Act.eval, *]; unfold wrap64; omega)) ?_; (with_reducible refine (impl_ButtonOf.calls kj5 a0 a1 a2 a3 a4 t177 _ A11.out).mono ?_); rintro e w' ⟨rfl, ⟨nd, rfl⟩⟩; refine ⟨_, rfl, ?_⟩) | ((with_reducible refine gate_callee (f := 11) rfl ?_); refine goesL_ (some 30) rfl rfl Tryd.func11 (by kernel_rfl) rfl #[] rfl (by (try simp only [List.map_toArray, List.map_cons, List.map_nil]); first | done | rfl | (simp only [List.length_drop, List.length_take]; rfl) | (simp [Act.eval, *]; done) | (simp [Act.eval, *]; unfold wrap64; omega)) ?_; (with_reducible refine (laws_makeAwake.calls kj5  true _ ?side1 A58.out).mono ?_); (case side1 => exact HLD.out.below (by repeat (first | (with_reducible first | exact HB.out | apply below_alloc | apply Go.Proofs.YtohblegfpghejaaDoor.Ext.below_bytes | apply pw_below_drewN | apply below_drew1) | exact HB.out))); rintro e w70 ⟨rfl, hb⟩; refine ⟨_, rfl, ?_⟩; have n0_ := Aside0.mk (below_step (by repeat (first | (with_reducible first | exact HB.out | apply below_alloc | apply Go.Proofs.YtohblegfpghejaaDoor.Ext.below_bytes | apply pw_below_drewN | apply below_drew1) | exact HB.out)) hb); clear HB; have HB := n0_; clear n0_; (try clear hb); (try clear hb2); (try clear hk); (try clear hi)))
                    go_ret
                    exact ⟨by first | rfl | (simp [errW_none, errW_some] <;> rfl) | (simp [*, errW_none, errW_some] <;> rfl), by repeat (first | (with_reducible first | exact HB.out | apply below_alloc | apply Go.Proofs.YtohblegfpghejaaDoor.Ext.below_bytes | apply pw_below_drewN | apply below_drew1) | exact HB.out)⟩
                · replace c59 := Bool.eq_false_iff.mpr c59
                  subst c59
                  have H1 : (some false) = some r := by rw [if_neg (show ¬ (false = true) by decide)] at H; exact H
                  clear H
                  have H := H1
                  clear H1
                  obtain rfl := Option.some.inj H
                  go_wp2_with (first | ((with_reducible refine gate_callee (f := 13) rfl ?_); refine goesL_ (some 25) rfl rfl Tryd.func13 (by kernel_rfl) rfl #[.int .u8 a0, .bool a1, .bool a2, .bool a3, .bool a4] rfl (by (try simp only [List.map_toArray, List.map_cons, List.map_nil]); first | done | rfl | (simp only [List.length_drop, List.length_take]; rfl) | (simp [Act.eval, *]; done) | (simp [Act.eval, *]; unfold wrap64; omega)) ?_; (with_reducible refine (impl_ButtonOf.calls kj5 a0 a1 a2 a3 a4 t177 _ A11.out).mono ?_); rintro e w' ⟨rfl, ⟨nd, rfl⟩⟩; refine ⟨_, rfl, ?_⟩) | ((with_reducible refine gate_callee (f := 11) rfl ?_); refine goesL_ (some 30) rfl rfl Tryd.func11 (by kernel_rfl) rfl #[] rfl (by (try simp only [List.map_toArray, List.map_cons, List.map_nil]); first | done | rfl | (simp only [List.length_drop, List.length_take]; rfl) | (simp [Act.eval, *]; done) | (simp [Act.eval, *]; unfold wrap64; omega)) ?_; (with_reducible refine (laws_makeAwake.calls kj5  false _ ?side1 A58.out).mono ?_); (case side1 => exact HLD.out.below (by repeat (first | (with_reducible first | exact HB.out | apply below_alloc | apply Go.Proofs.YtohblegfpghejaaDoor.Ext.below_bytes | apply pw_below_drewN | apply below_drew1) | exact HB.out))); rintro e w71 ⟨rfl, hb⟩; refine ⟨_, rfl, ?_⟩; have n0_ := Aside0.mk (below_step (by repeat (first | (with_reducible first | exact HB.out | apply below_alloc | apply Go.Proofs.YtohblegfpghejaaDoor.Ext.below_bytes | apply pw_below_drewN | apply below_drew1) | exact HB.out)) hb); clear HB; have HB := n0_; clear n0_; (try clear hb); (try clear hb2); (try clear hk); (try clear hi)))
                  go_ret
                  exact ⟨by first | rfl | (simp [errW_none, errW_some] <;> rfl) | (simp [*, errW_none, errW_some] <;> rfl), by repeat (first | (with_reducible first | exact HB.out | apply below_alloc | apply Go.Proofs.YtohblegfpghejaaDoor.Ext.below_bytes | apply pw_below_drewN | apply below_drew1) | exact HB.out)⟩
              · rw [if_neg c57] at H
                exact absurd H (by simp)

/-- THE ONE PURE STATEMENT of laws_FnButtonBits: yours. -/
def laws_FnButtonBits.Pure : Prop := ∀ (a0 : Int) (a1 : Bool) (a2 : Bool) (a3 : Bool) (a4 : Bool), (Lit.int .u8 a0).wf = true → ∃ k, laws_FnButtonBits.f k a0 a1 a2 a3 a4 = some true
theorem laws_FnButtonBits.walk (P : laws_FnButtonBits.Pure) (a0 : Int) (a1 : Bool) (a2 : Bool) (a3 : Bool) (a4 : Bool) (w : World) (hLD : Laid w) (w0 : (Lit.int .u8 a0).wf = true) :
    Calls Tryd.prog 5 #[.int .u8 a0, .bool a1, .bool a2, .bool a3, .bool a4] w fun e w' => e = .returned (.bool true) ∧ Below w.heap.size w w' := by
  obtain ⟨k, h⟩ := P a0 a1 a2 a3 a4 w0
  refine (laws_FnButtonBits.calls k a0 a1 a2 a3 a4 true w hLD h).mono ?_
  rintro e w' ⟨rfl, hd⟩
  exact ⟨rfl, hd⟩

end Go.Proofs.YtohblegfpghejaaDoor.PB
