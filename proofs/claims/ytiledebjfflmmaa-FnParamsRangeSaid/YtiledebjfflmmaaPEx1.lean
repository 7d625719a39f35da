-- Written by wip/pp.py, a program of this session, out of the translation. Not trusted: Lean checks it.
import Derived.Test.YtiledebjfflmmaaEachO
import Derived.Test.YtiledebjfflmmaaRangeO
import Derived.Test.YtiledebjfflmmaaPEx0
namespace Go.Proofs.Ytiledebjfflmmaa.PE
open Go.RowKit Go.Proofs.YtiledebjfflmmaaW.PrintWords Go.Proofs.YtiledebjfflmmaaW.PrintLast Go.Proofs.YtiledebjfflmmaaW.PrintMore
attribute [local go_sem] max2_int min2_int max_two min_two max_three min_three max_four min_four   -- for this text's walks alone
attribute [local go_sem] Go.Proofs.Ytiledebjfflmmaa.Ext.wrap64_mod256 Go.Proofs.Ytiledebjfflmmaa.Ext.wrap64_mod32 Go.Proofs.Ytiledebjfflmmaa.Ext.i64_mod256 Go.Proofs.Ytiledebjfflmmaa.Ext.i64_mod32 Go.Proofs.Ytiledebjfflmmaa.Ext.i64_u8 Go.Proofs.Ytiledebjfflmmaa.Ext.w64_u8 Go.Proofs.Ytiledebjfflmmaa.Ext.i64_u32 Go.Proofs.Ytiledebjfflmmaa.Ext.w64_u32 
set_option linter.unusedVariables false
set_option linter.unusedSimpArgs false

/-! ### xansi_Command: function 20 -/
def xansi_Command.f (a0 : Int) (a1 : Int) (a2 : Int) : Option (Int) := some (Go.bits .or .i64 (Go.bits .or .i64 (wrap64 (a2)) (wrap64 ((wrap64 (a0)) * 256))) (wrap64 ((wrap64 (a1)) * 65536)))
set_option maxHeartbeats 8000000 in
set_option maxRecDepth 100000 in
theorem xansi_Command.calls (a0 : Int) (a1 : Int) (a2 : Int) (r : Int) (w : World) (h : xansi_Command.f a0 a1 a2 = some r) :
    Calls Try.prog 20 #[.int .u8 a0, .int .u8 a1, .int .u8 a2] w fun e w' => e = .returned (.int .i64 r) ∧ Drawn0 w w' := by
  have H : (some (Go.bits .or .i64 (Go.bits .or .i64 (wrap64 (a2)) (wrap64 ((wrap64 (a0)) * 256))) (wrap64 ((wrap64 (a1)) * 65536)))) = some r := h
  clear h
  obtain rfl := Option.some.inj H
  go_enter Try.func20, Try.ntmps20
  go_wp2
  go_ret
  exact ⟨by first | rfl | (simp; done) | (simp [*]; done), by repeat (first | exact Drawn0.refl _ | apply Drawn0.step)⟩

/-! ### impl_Pack: function 14 -/
def impl_Pack.f (a0 : Int) (a1 : Int) (a2 : Int) : Option (Int) := (xansi_Command.f a0 a1 a2).bind fun t101 => (some t101)
set_option maxHeartbeats 8000000 in
set_option maxRecDepth 100000 in
theorem impl_Pack.calls (a0 : Int) (a1 : Int) (a2 : Int) (r : Int) (w : World) (h : impl_Pack.f a0 a1 a2 = some r) :
    Calls Try.prog 14 #[.int .u8 a0, .int .u8 a1, .int .u8 a2] w fun e w' => e = .returned (.int .i64 r) ∧ Drawn0 w w' := by
  have H : ((xansi_Command.f a0 a1 a2).bind fun t101 => (some t101)) = some r := h
  clear h
  replace H := Option.bind_eq_some_iff.mp H
  obtain ⟨t101, A40, H⟩ := H
  replace H : (some t101) = some r := H
  have A4 := Aside0.mk A40
  clear A40
  obtain rfl := Option.some.inj H
  go_enter Try.func14, Try.ntmps14
  go_wp2_with (first | ((with_reducible refine gate_callee (f := 20) rfl ?_); refine goesL_ (some 10) rfl rfl Try.func20 (by kernel_rfl) rfl #[.int .u8 a0, .int .u8 a1, .int .u8 a2] rfl (by (try simp only [List.map_toArray, List.map_cons, List.map_nil]); first | done | rfl | (simp only [List.length_drop, List.length_take]; rfl) | (simp [Act.eval, *]; done) | (simp [Act.eval, *]; unfold wrap64; omega)) ?_; (with_reducible refine (xansi_Command.calls a0 a1 a2 t101 _ A4.out).mono ?_); rintro e w' ⟨rfl, ⟨nd, rfl⟩⟩; refine ⟨_, rfl, ?_⟩))
  go_ret
  exact ⟨by first | rfl | (simp; done) | (simp [*]; done), by repeat (first | exact Drawn0.refl _ | apply Drawn0.step)⟩

/-! ### laws_packAwake: function 6 -/
def laws_packAwake.f  : Option (Bool) := (impl_Pack.f 63 32 104).bind fun t102 => (some (t102 == 2113384))
set_option maxHeartbeats 8000000 in
set_option maxRecDepth 100000 in
theorem laws_packAwake.calls  (r : Bool) (w : World) (h : laws_packAwake.f  = some r) :
    Calls Try.prog 6 #[] w fun e w' => e = .returned (.bool r) ∧ Drawn0 w w' := by
  have H : ((impl_Pack.f 63 32 104).bind fun t102 => (some (t102 == 2113384))) = some r := h
  clear h
  replace H := Option.bind_eq_some_iff.mp H
  obtain ⟨t102, A10, H⟩ := H
  replace H : (some (t102 == 2113384)) = some r := H
  have A1 := Aside0.mk A10
  clear A10
  obtain rfl := Option.some.inj H
  go_enter Try.func6, Try.ntmps6
  go_wp2_with (first | ((with_reducible refine gate_callee (f := 14) rfl ?_); refine goesL_ (some 1) rfl rfl Try.func14 (by kernel_rfl) rfl #[.int .u8 63, .int .u8 32, .int .u8 104] rfl (by (try simp only [List.map_toArray, List.map_cons, List.map_nil]); first | done | rfl | (simp only [List.length_drop, List.length_take]; rfl) | (simp [Act.eval, *]; done) | (simp [Act.eval, *]; unfold wrap64; omega)) ?_; (with_reducible refine (impl_Pack.calls 63 32 104 t102 _ A1.out).mono ?_); rintro e w' ⟨rfl, ⟨nd, rfl⟩⟩; refine ⟨_, rfl, ?_⟩))
  go_ret
  exact ⟨by first | rfl | (simp; done) | (simp [*]; done), by repeat (first | exact Drawn0.refl _ | apply Drawn0.step)⟩

/-! ### spec_Value: function 15 -/
def spec_Value.f (a0 : Int) : Option (Int) := some (Go.bits .and .i64 a0 2147483647)
set_option maxHeartbeats 8000000 in
set_option maxRecDepth 100000 in
theorem spec_Value.calls (a0 : Int) (r : Int) (w : World) (h : spec_Value.f a0 = some r) :
    Calls Try.prog 15 #[.int .i64 a0] w fun e w' => e = .returned (.int .i64 r) ∧ Drawn0 w w' := by
  have H : (some (Go.bits .and .i64 a0 2147483647)) = some r := h
  clear h
  obtain rfl := Option.some.inj H
  go_enter Try.func15, Try.ntmps15
  go_wp2
  go_ret
  exact ⟨by first | rfl | (simp; done) | (simp [*]; done), by repeat (first | exact Drawn0.refl _ | apply Drawn0.step)⟩

/-! ### spec_Or: function 7 -/
def spec_Or.f (a0 : Int) (a1 : Int) : Option (Int) := (spec_Value.f a0).bind fun t103 => (if t103 = 2147483647 then (some a1) else ((spec_Value.f a0).bind fun t104 => (some t104)))
set_option maxHeartbeats 8000000 in
set_option maxRecDepth 100000 in
theorem spec_Or.calls (a0 : Int) (a1 : Int) (r : Int) (w : World) (h : spec_Or.f a0 a1 = some r) :
    Calls Try.prog 7 #[.int .i64 a0, .int .i64 a1] w fun e w' => e = .returned (.int .i64 r) ∧ Drawn0 w w' := by
  have H : ((spec_Value.f a0).bind fun t103 => (if t103 = 2147483647 then (some a1) else ((spec_Value.f a0).bind fun t104 => (some t104)))) = some r := h
  clear h
  replace H := Option.bind_eq_some_iff.mp H
  obtain ⟨t103, A30, H⟩ := H
  replace H : (if t103 = 2147483647 then (some a1) else ((spec_Value.f a0).bind fun t104 => (some t104))) = some r := H
  have A3 := Aside0.mk A30
  clear A30
  by_cases c4 : t103 = 2147483647
  · rw [if_pos c4] at H
    have c4b0 : (t103 == 2147483647) = true := beq_iff_eq.mpr c4
    have c4b1 : (t103 != 2147483647) = false := bne_eq_false_iff_eq.mpr c4
    clear c4
    obtain rfl := Option.some.inj H
    go_enter Try.func7, Try.ntmps7
    go_wp2_with (first | ((with_reducible refine gate_callee (f := 15) rfl ?_); refine goesL_ (some 6) rfl rfl Try.func15 (by kernel_rfl) rfl #[.int .i64 a0] rfl (by (try simp only [List.map_toArray, List.map_cons, List.map_nil]); first | done | rfl | (simp only [List.length_drop, List.length_take]; rfl) | (simp [Act.eval, *]; done) | (simp [Act.eval, *]; unfold wrap64; omega)) ?_; (with_reducible refine (spec_Value.calls a0 t103 _ A3.out).mono ?_); rintro e w' ⟨rfl, ⟨nd, rfl⟩⟩; refine ⟨_, rfl, ?_⟩))
    go_ret
    exact ⟨by first | rfl | (simp; done) | (simp [*]; done), by repeat (first | exact Drawn0.refl _ | apply Drawn0.step)⟩
  · rw [if_neg c4] at H
    have c4b0 : (t103 == 2147483647) = false := beq_eq_false_iff_ne.mpr c4
    have c4b1 : (t103 != 2147483647) = true := bne_iff_ne.mpr c4
    replace H := Option.bind_eq_some_iff.mp H
    obtain ⟨t104, A50, H⟩ := H
    replace H : (some t104) = some r := H
    have A5 := Aside0.mk A50
    clear A50
    obtain rfl := Option.some.inj H
    go_enter Try.func7, Try.ntmps7
    go_wp2_with (first | ((with_reducible refine gate_callee (f := 15) rfl ?_); refine goesL_ (some 6) rfl rfl Try.func15 (by kernel_rfl) rfl #[.int .i64 a0] rfl (by (try simp only [List.map_toArray, List.map_cons, List.map_nil]); first | done | rfl | (simp only [List.length_drop, List.length_take]; rfl) | (simp [Act.eval, *]; done) | (simp [Act.eval, *]; unfold wrap64; omega)) ?_; (with_reducible refine (spec_Value.calls a0 t103 _ A3.out).mono ?_); rintro e w' ⟨rfl, ⟨nd, rfl⟩⟩; refine ⟨_, rfl, ?_⟩) | ((with_reducible refine gate_callee (f := 15) rfl ?_); refine goesL_ (some 10) rfl rfl Try.func15 (by kernel_rfl) rfl #[.int .i64 a0] rfl (by (try simp only [List.map_toArray, List.map_cons, List.map_nil]); first | done | rfl | (simp only [List.length_drop, List.length_take]; rfl) | (simp [Act.eval, *]; done) | (simp [Act.eval, *]; unfold wrap64; omega)) ?_; (with_reducible refine (spec_Value.calls a0 t104 _ A5.out).mono ?_); rintro e w' ⟨rfl, ⟨nd, rfl⟩⟩; refine ⟨_, rfl, ?_⟩))
    go_ret
    exact ⟨by first | rfl | (simp; done) | (simp [*]; done), by repeat (first | exact Drawn0.refl _ | apply Drawn0.step)⟩

/-! ### spec_More: function 8 -/
def spec_More.f (a0 : Int) : Option (Bool) := some ((Go.bits .and .i64 a0 (-2147483648)) != 0)
set_option maxHeartbeats 8000000 in
set_option maxRecDepth 100000 in
theorem spec_More.calls (a0 : Int) (r : Bool) (w : World) (h : spec_More.f a0 = some r) :
    Calls Try.prog 8 #[.int .i64 a0] w fun e w' => e = .returned (.bool r) ∧ Drawn0 w w' := by
  have H : (some ((Go.bits .and .i64 a0 (-2147483648)) != 0)) = some r := h
  clear h
  obtain rfl := Option.some.inj H
  go_enter Try.func8, Try.ntmps8
  go_wp2
  go_ret
  exact ⟨by first | rfl | (simp; done) | (simp [*]; done), by repeat (first | exact Drawn0.refl _ | apply Drawn0.step)⟩

/-! ### laws_FnParamsEach: function 3 -/
def laws_FnParamsEach.l0 : Nat → List Int → Int → List (S27) → Int → Int → Option (Bool)
  | 0, _, _, _, _, _ => none
  | k + 1, x0, x1, x27, x28, x29 => if x29 < x28 then (if 0 ≤ x29 then (if x29 < (x27.length : Int) then (if ((rd_T27 x27 x29).f0) = x29 then (if x29 < (x0.length : Int) then ((spec_Or.f (rd x0 x29) x1).bind fun t115 => (if ((rd_T27 x27 x29).f1) = t115 then ((spec_More.f (rd x0 x29)).bind fun t117 => (if (((rd_T27 x27 x29).f2) != t117) = true then (none) else (laws_FnParamsEach.l0 k x0 x1 x27 x28 (wrap64 (x29 + 1))))) else (none))) else (none)) else (none)) else (none)) else (none)) else (some true)
def laws_FnParamsEach.f (k : Nat) (l0 : List Int) (a1 : Int) : Option (Bool) := if (l0.length : Int) > 2147483647 then (some true) else (if (l0.length : Int) > 100 then (some true) else (if ([] : List Int).length + l0.length < 17592186044416 then ((impl_EachOf.f (([] : List Int) ++ l0) a1).bind fun t108 => (if (t108.length : Int) = (l0.length : Int) then ((laws_packAwake.f).bind fun t111 => (if t111 = true then (laws_FnParamsEach.l0 k l0 a1 t108 (t108.length : Int) 0) else (none))) else (none))) else (none)))
theorem laws_FnParamsEach.mono_l : ∀ k, (∀ y0 y1 y2 y3 y4, LeO (laws_FnParamsEach.l0 k y0 y1 y2 y3 y4) (laws_FnParamsEach.l0 (k + 1) y0 y1 y2 y3 y4))
  | 0 => fun _ _ _ _ _ r h => by simp [laws_FnParamsEach.l0] at h
  | k + 1 => by
    have ih0 := laws_FnParamsEach.mono_l k
    · intro y0 y1 y2 y3 y4
      unfold laws_FnParamsEach.l0
      repeat' first
      | (with_reducible exact ih0 _ _ _ _ _)
      | (with_reducible exact LeO.refl _)
      | (with_reducible exact LeO.none _)
      | (with_reducible refine LeO.ite ?_ ?_)
      | (with_reducible refine LeO.bind ?_ (fun _ => ?_))
      | exact ih0 _ _ _ _ _
      | exact LeO.none _
      | refine LeO.ite ?_ ?_
      | refine LeO.bind ?_ (fun _ => ?_)
theorem laws_FnParamsEach.mono : ∀ a0 a1 k, LeO (laws_FnParamsEach.f k a0 a1) (laws_FnParamsEach.f (k + 1) a0 a1) := by
  intro a0 a1 k
  have ih0 := laws_FnParamsEach.mono_l k
  unfold laws_FnParamsEach.f
  repeat' first
      | (with_reducible exact ih0 _ _ _ _ _)
      | (with_reducible exact LeO.refl _)
      | (with_reducible exact LeO.none _)
      | (with_reducible refine LeO.ite ?_ ?_)
      | (with_reducible refine LeO.bind ?_ (fun _ => ?_))
      | exact ih0 _ _ _ _ _
      | exact LeO.none _
      | refine LeO.ite ?_ ?_
      | refine LeO.bind ?_ (fun _ => ?_)
set_option maxHeartbeats 8000000 in
set_option maxRecDepth 100000 in
theorem laws_FnParamsEach.calls (k : Nat) (A0 : Option Addr) (c0 : Nat) (l0 : List Int) (a1 : Int) (r : Bool) (w : World) (hr0 : Kd.C (Kd.int .i64) w A0 l0.length l0) (hc0 : l0.length ≤ c0) (h : laws_FnParamsEach.f k l0 a1 = some r) :
    Calls Try.prog 3 #[.slice A0 l0.length c0, .int .i64 a1] w fun e w' => e = .returned (.bool r) ∧ Below w.heap.size w w' := by
  have hu27 := Try.underlying27
  have HR0 := Aside0.mk hr0
  have HC0 := Aside0.mk hc0
  clear hr0 hc0
  have HB := Aside0.mk (Below.refl w.heap.size w)
  have H : (if (l0.length : Int) > 2147483647 then (some true) else (if (l0.length : Int) > 100 then (some true) else (if ([] : List Int).length + l0.length < 17592186044416 then ((impl_EachOf.f (([] : List Int) ++ l0) a1).bind fun t108 => (if (t108.length : Int) = (l0.length : Int) then ((laws_packAwake.f).bind fun t111 => (if t111 = true then (laws_FnParamsEach.l0 k l0 a1 t108 (t108.length : Int) 0) else (none))) else (none))) else (none)))) = some r := h
  clear h
  by_cases c3 : (l0.length : Int) > 2147483647
  · rw [if_pos c3] at H
    have c3b0 : decide (2147483647 < (l0.length : Int)) = true := decide_eq_true c3
    have c3b1 : decide (2147483647 < l0.length) = true := decide_eq_true (by omega)
    clear c3
    obtain rfl := Option.some.inj H
    go_enter Try.func3, Try.ntmps3
    go_wp2
    repeat (go_quiet (fail); try go_wp2)
    go_ret
    exact ⟨by first | rfl | (simp [errW_none, errW_some] <;> rfl) | (simp [*, errW_none, errW_some] <;> rfl), by repeat (first | (with_reducible first | exact HB.out | apply below_alloc | apply Go.Proofs.Ytiledebjfflmmaa.Ext.below_bytes | apply pw_below_drewN | apply below_drew1) | exact HB.out)⟩
  · rw [if_neg c3] at H
    have c3b0 : decide (2147483647 < (l0.length : Int)) = false := decide_eq_false c3
    have c3b1 : decide (2147483647 < l0.length) = false := decide_eq_false (by omega)
    clear c3
    by_cases c4 : (l0.length : Int) > 100
    · rw [if_pos c4] at H
      have c4b0 : decide (100 < (l0.length : Int)) = true := decide_eq_true c4
      have c4b1 : decide (100 < l0.length) = true := decide_eq_true (by omega)
      clear c4
      obtain rfl := Option.some.inj H
      go_enter Try.func3, Try.ntmps3
      go_wp2
      repeat (go_quiet (fail); try go_wp2)
      go_ret
      exact ⟨by first | rfl | (simp [errW_none, errW_some] <;> rfl) | (simp [*, errW_none, errW_some] <;> rfl), by repeat (first | (with_reducible first | exact HB.out | apply below_alloc | apply Go.Proofs.Ytiledebjfflmmaa.Ext.below_bytes | apply pw_below_drewN | apply below_drew1) | exact HB.out)⟩
    · rw [if_neg c4] at H
      have c4b0 : decide (100 < (l0.length : Int)) = false := decide_eq_false c4
      have c4b1 : decide (100 < l0.length) = false := decide_eq_false (by omega)
      clear c4
      by_cases c5 : ([] : List Int).length + l0.length < 17592186044416
      · rw [if_pos c5] at H
        have LMc5 := Aside0.mk c5
        clear c5
        obtain ⟨y105, hy105⟩ : ∃ y_ : List Int, y_ = (([] : List Int) ++ l0) := ⟨_, rfl⟩
        replace H : ((impl_EachOf.f y105 a1).bind fun t108 => (if (t108.length : Int) = (l0.length : Int) then ((laws_packAwake.f).bind fun t111 => (if t111 = true then (laws_FnParamsEach.l0 k l0 a1 t108 (t108.length : Int) 0) else (none))) else (none))) = some r := by first | (rw [hy105]; with_reducible exact H) | (have H2_ := (Option.bind_some _ _).symm.trans H; rw [hy105]; with_reducible exact H2_) | (have H2_ := (Option.bind_some _ _).symm.trans H; with_reducible exact H2_) | with_reducible exact H | (rw [hy105]; exact H) | exact H
        have Ny105 := Aside0.mk hy105
        clear hy105
        replace H := Option.bind_eq_some_iff.mp H
        obtain ⟨t108, A60, H⟩ := H
        replace H : (if (t108.length : Int) = (l0.length : Int) then ((laws_packAwake.f).bind fun t111 => (if t111 = true then (laws_FnParamsEach.l0 k l0 a1 t108 (t108.length : Int) 0) else (none))) else (none)) = some r := H
        have A6 := Aside0.mk A60
        clear A60
        by_cases c7 : (t108.length : Int) = (l0.length : Int)
        · rw [if_pos c7] at H
          have c7b0 : ((t108.length : Int) == (l0.length : Int)) = true := beq_iff_eq.mpr c7
          have c7b1 : ((t108.length : Int) != (l0.length : Int)) = false := bne_eq_false_iff_eq.mpr c7
          have c7b2 : (t108.length == l0.length) = true := by first | simpa using c7 | (simp at c7 ⊢; omega)
          clear c7
          replace H := Option.bind_eq_some_iff.mp H
          obtain ⟨t111, A80, H⟩ := H
          replace H : (if t111 = true then (laws_FnParamsEach.l0 k l0 a1 t108 (t108.length : Int) 0) else (none)) = some r := H
          have A8 := Aside0.mk A80
          clear A80
          by_cases c9 : t111 = true
          · subst c9
            have H1 : (laws_FnParamsEach.l0 k l0 a1 t108 (t108.length : Int) 0) = some r := by rw [if_pos rfl] at H; exact H
            clear H
            have H := H1
            clear H1
            have H' := Aside0.mk H
            clear H
            go_enter Try.func3, Try.ntmps3
            go_wp2_with (first | ((with_reducible refine gate_builtin (b := .append) (xs := #[.const (.slice none 0 0), .tmp 14]) rfl ?_); at_builtin; refine Kd.R_append_rows (Kd.int .i64) (w0 := w) w.heap.size rfl (.const (.slice none 0 0)) (.tmp 14) 22 2 (.int .i64 0) 8 rfl Try.underlying22 info2 rfl (by decide) (by omega) (.slice none 0 0) ([] : List Int) l0 _ _ _ (fun _ => True) (fun _ => False) rfl rfl ?aO ?aR (fun _ _ h => h) (fun _ h => h.elim) ?aF ?aB ?aS ?aL ?_; (case aR => repeat (first | exact HR0.out | (with_reducible refine Kd.C_alloc ?_ _) | (with_reducible refine Kd.C_drewN ?_ _) | (with_reducible refine Kd.C_drew ?_))); (case aB => exact (by repeat (first | (with_reducible first | exact HB.out | apply below_alloc | apply Go.Proofs.Ytiledebjfflmmaa.Ext.below_bytes | apply pw_below_drewN | apply below_drew1) | exact HB.out))); (case aF => exact (fun _ _ => trivial)); (case aO => exact ((Kd.R_nil _ _ _ _ (fun _ => True)))); (case aS => exact (below_size (by repeat (first | (with_reducible first | exact HB.out | apply below_alloc | apply Go.Proofs.Ytiledebjfflmmaa.Ext.below_bytes | apply pw_below_drewN | apply below_drew1) | exact HB.out)))); (case aL => have := LMc5.out; omega); intro v106 w10 ho hb hg hat; rw [← Ny105.out] at ho; have n0_ := Aside0.mk (hb); have n1_ := Aside0.mk (ho); clear HB; have HB := n0_; have HO107 := n1_; clear n0_ n1_; clear ho hb hg hat; obtain ⟨Ao11, co11, eo11⟩ := Kd.R_slice HO107.out; subst eo11) | (go_at_call 5; (with_reducible refine (impl_EachOf.calls _ _ y105 a1 t108 _ ?side1 ?side2 A6.out).mono ?_); (case side1 => repeat (first | exact (Kd.R_reads' HO107.out).2.2 | (with_reducible refine Kd.C_alloc ?_ _) | (with_reducible refine Kd.C_drewN ?_ _) | (with_reducible refine Kd.C_drew ?_))); (case side2 => exact (Kd.R_reads' HO107.out).2.1); rintro e w12 ⟨v109, rfl, ho0, hb⟩; have n0_ := Aside0.mk (Kd.R_below (by (with_reducible repeat (first | apply Kd.R_alloc | apply Go.Proofs.Ytiledebjfflmmaa.Ext.R_bytes | apply Kd.R_drewN | apply Kd.R_drew)); exact HO107.out) hb); have n1_ := Aside0.mk (Kd.R_lower ho0 (below_size (by repeat (first | (with_reducible first | exact HB.out | apply below_alloc | apply Go.Proofs.Ytiledebjfflmmaa.Ext.below_bytes | apply pw_below_drewN | apply below_drew1) | exact HB.out)))); have n2_ := Aside0.mk (below_step (by repeat (first | (with_reducible first | exact HB.out | apply below_alloc | apply Go.Proofs.Ytiledebjfflmmaa.Ext.below_bytes | apply pw_below_drewN | apply below_drew1) | exact HB.out)) hb); clear HO107; clear HB; have HO107 := n0_; have HO110 := n1_; have HB := n2_; clear n0_ n1_ n2_; (try clear hb); (try clear hb2); (try clear hk); (try clear hi); (try clear ho0); obtain ⟨Ao13, co13, eo13⟩ := Kd.R_slice HO110.out; subst eo13) | (go_at_call 6; (with_reducible refine (laws_packAwake.calls  true _ A8.out).mono ?_); rintro e w' ⟨rfl, ⟨nd, rfl⟩⟩; (try first | exact ⟨rfl, _, World.drewN_drewN _ _ _⟩ | exact ⟨rfl, _, Eq.trans (World.drewN_drewN _ _ _) (congrArg (World.drewN _) (Nat.add_assoc _ _ _))⟩)))
            repeat (go_quiet (first | ((with_reducible refine gate_builtin (b := .append) (xs := #[.const (.slice none 0 0), .tmp 14]) rfl ?_); at_builtin; refine Kd.R_append_rows (Kd.int .i64) (w0 := w) w.heap.size rfl (.const (.slice none 0 0)) (.tmp 14) 22 2 (.int .i64 0) 8 rfl Try.underlying22 info2 rfl (by decide) (by omega) (.slice none 0 0) ([] : List Int) l0 _ _ _ (fun _ => True) (fun _ => False) rfl rfl ?aO ?aR (fun _ _ h => h) (fun _ h => h.elim) ?aF ?aB ?aS ?aL ?_; (case aR => repeat (first | exact HR0.out | (with_reducible refine Kd.C_alloc ?_ _) | (with_reducible refine Kd.C_drewN ?_ _) | (with_reducible refine Kd.C_drew ?_))); (case aB => exact (by repeat (first | (with_reducible first | exact HB.out | apply below_alloc | apply Go.Proofs.Ytiledebjfflmmaa.Ext.below_bytes | apply pw_below_drewN | apply below_drew1) | exact HB.out))); (case aF => exact (fun _ _ => trivial)); (case aO => exact ((Kd.R_nil _ _ _ _ (fun _ => True)))); (case aS => exact (below_size (by repeat (first | (with_reducible first | exact HB.out | apply below_alloc | apply Go.Proofs.Ytiledebjfflmmaa.Ext.below_bytes | apply pw_below_drewN | apply below_drew1) | exact HB.out)))); (case aL => have := LMc5.out; omega); intro v106 w10 ho hb hg hat; rw [← Ny105.out] at ho; have n0_ := Aside0.mk (hb); have n1_ := Aside0.mk (ho); clear HB; have HB := n0_; have HO107 := n1_; clear n0_ n1_; clear ho hb hg hat; obtain ⟨Ao11, co11, eo11⟩ := Kd.R_slice HO107.out; subst eo11) | (go_at_call 5; (with_reducible refine (impl_EachOf.calls _ _ y105 a1 t108 _ ?side1 ?side2 A6.out).mono ?_); (case side1 => repeat (first | exact (Kd.R_reads' HO107.out).2.2 | (with_reducible refine Kd.C_alloc ?_ _) | (with_reducible refine Kd.C_drewN ?_ _) | (with_reducible refine Kd.C_drew ?_))); (case side2 => exact (Kd.R_reads' HO107.out).2.1); rintro e w12 ⟨v109, rfl, ho0, hb⟩; have n0_ := Aside0.mk (Kd.R_below (by (with_reducible repeat (first | apply Kd.R_alloc | apply Go.Proofs.Ytiledebjfflmmaa.Ext.R_bytes | apply Kd.R_drewN | apply Kd.R_drew)); exact HO107.out) hb); have n1_ := Aside0.mk (Kd.R_lower ho0 (below_size (by repeat (first | (with_reducible first | exact HB.out | apply below_alloc | apply Go.Proofs.Ytiledebjfflmmaa.Ext.below_bytes | apply pw_below_drewN | apply below_drew1) | exact HB.out)))); have n2_ := Aside0.mk (below_step (by repeat (first | (with_reducible first | exact HB.out | apply below_alloc | apply Go.Proofs.Ytiledebjfflmmaa.Ext.below_bytes | apply pw_below_drewN | apply below_drew1) | exact HB.out)) hb); clear HO107; clear HB; have HO107 := n0_; have HO110 := n1_; have HB := n2_; clear n0_ n1_ n2_; (try clear hb); (try clear hb2); (try clear hk); (try clear hi); (try clear ho0); obtain ⟨Ao13, co13, eo13⟩ := Kd.R_slice HO110.out; subst eo13) | (go_at_call 6; (with_reducible refine (laws_packAwake.calls  true _ A8.out).mono ?_); rintro e w' ⟨rfl, ⟨nd, rfl⟩⟩; (try first | exact ⟨rfl, _, World.drewN_drewN _ _ _⟩ | exact ⟨rfl, _, Eq.trans (World.drewN_drewN _ _ _) (congrArg (World.drewN _) (Nat.add_assoc _ _ _))⟩))); try go_wp2_with (first | ((with_reducible refine gate_builtin (b := .append) (xs := #[.const (.slice none 0 0), .tmp 14]) rfl ?_); at_builtin; refine Kd.R_append_rows (Kd.int .i64) (w0 := w) w.heap.size rfl (.const (.slice none 0 0)) (.tmp 14) 22 2 (.int .i64 0) 8 rfl Try.underlying22 info2 rfl (by decide) (by omega) (.slice none 0 0) ([] : List Int) l0 _ _ _ (fun _ => True) (fun _ => False) rfl rfl ?aO ?aR (fun _ _ h => h) (fun _ h => h.elim) ?aF ?aB ?aS ?aL ?_; (case aR => repeat (first | exact HR0.out | (with_reducible refine Kd.C_alloc ?_ _) | (with_reducible refine Kd.C_drewN ?_ _) | (with_reducible refine Kd.C_drew ?_))); (case aB => exact (by repeat (first | (with_reducible first | exact HB.out | apply below_alloc | apply Go.Proofs.Ytiledebjfflmmaa.Ext.below_bytes | apply pw_below_drewN | apply below_drew1) | exact HB.out))); (case aF => exact (fun _ _ => trivial)); (case aO => exact ((Kd.R_nil _ _ _ _ (fun _ => True)))); (case aS => exact (below_size (by repeat (first | (with_reducible first | exact HB.out | apply below_alloc | apply Go.Proofs.Ytiledebjfflmmaa.Ext.below_bytes | apply pw_below_drewN | apply below_drew1) | exact HB.out)))); (case aL => have := LMc5.out; omega); intro v106 w10 ho hb hg hat; rw [← Ny105.out] at ho; have n0_ := Aside0.mk (hb); have n1_ := Aside0.mk (ho); clear HB; have HB := n0_; have HO107 := n1_; clear n0_ n1_; clear ho hb hg hat; obtain ⟨Ao11, co11, eo11⟩ := Kd.R_slice HO107.out; subst eo11) | (go_at_call 5; (with_reducible refine (impl_EachOf.calls _ _ y105 a1 t108 _ ?side1 ?side2 A6.out).mono ?_); (case side1 => repeat (first | exact (Kd.R_reads' HO107.out).2.2 | (with_reducible refine Kd.C_alloc ?_ _) | (with_reducible refine Kd.C_drewN ?_ _) | (with_reducible refine Kd.C_drew ?_))); (case side2 => exact (Kd.R_reads' HO107.out).2.1); rintro e w12 ⟨v109, rfl, ho0, hb⟩; have n0_ := Aside0.mk (Kd.R_below (by (with_reducible repeat (first | apply Kd.R_alloc | apply Go.Proofs.Ytiledebjfflmmaa.Ext.R_bytes | apply Kd.R_drewN | apply Kd.R_drew)); exact HO107.out) hb); have n1_ := Aside0.mk (Kd.R_lower ho0 (below_size (by repeat (first | (with_reducible first | exact HB.out | apply below_alloc | apply Go.Proofs.Ytiledebjfflmmaa.Ext.below_bytes | apply pw_below_drewN | apply below_drew1) | exact HB.out)))); have n2_ := Aside0.mk (below_step (by repeat (first | (with_reducible first | exact HB.out | apply below_alloc | apply Go.Proofs.Ytiledebjfflmmaa.Ext.below_bytes | apply pw_below_drewN | apply below_drew1) | exact HB.out)) hb); clear HO107; clear HB; have HO107 := n0_; have HO110 := n1_; have HB := n2_; clear n0_ n1_ n2_; (try clear hb); (try clear hb2); (try clear hk); (try clear hi); (try clear ho0); obtain ⟨Ao13, co13, eo13⟩ := Kd.R_slice HO110.out; subst eo13) | (go_at_call 6; (with_reducible refine (laws_packAwake.calls  true _ A8.out).mono ?_); rintro e w' ⟨rfl, ⟨nd, rfl⟩⟩; (try first | exact ⟨rfl, _, World.drewN_drewN _ _ _⟩ | exact ⟨rfl, _, Eq.trans (World.drewN_drewN _ _ _) (congrArg (World.drewN _) (Nat.add_assoc _ _ _))⟩))))
            go_loopg [29] k (fun kq v29 w' => ∃ (x29_1 : Int), v29 = .int .i64 x29_1 ∧ Aside0 (laws_FnParamsEach.l0 kq l0 a1 t108 (t108.length : Int) x29_1 = some r) ∧ Aside0 (kq ≤ k) ∧ Aside0 (Kd.R k27 27 w' w.heap.size (fun _ => True) (.slice Ao13 t108.length co13) t108) ∧ Aside0 (Below w.heap.size w w'))
            case atStart => exact ⟨(0), (by first | rfl | (simp; done) | (simp [*]; done)), H', ⟨Nat.le_refl _⟩, ⟨by (with_reducible repeat (first | apply Kd.R_alloc | apply Go.Proofs.Ytiledebjfflmmaa.Ext.R_bytes | apply Kd.R_drewN | apply Kd.R_drew)); exact HO110.out⟩, ⟨by repeat (first | (with_reducible first | exact HB.out | apply below_alloc | apply Go.Proofs.Ytiledebjfflmmaa.Ext.below_bytes | apply pw_below_drewN | apply below_drew1) | exact HB.out)⟩⟩
            case round =>
              clear H'
              try clear p2
              try clear c3
              try clear c3b0
              try clear c3b1
              try clear c4
              try clear c4b0
              try clear c4b1
              try clear c5
              try clear c7
              try clear c7b0
              try clear c7b1
              try clear c7b2
              try clear c9
              obtain ⟨x29_1, rfl, HA, HK1, HO_27, HB⟩ := hrel
              cases gk with
              | zero => exact absurd HA.out (by simp [laws_FnParamsEach.l0])
              | succ k1 =>
                have H := HA.out
                clear HA
                simp only [laws_FnParamsEach.l0] at H
                by_cases c14 : x29_1 < (t108.length : Int)
                · rw [if_pos c14] at H
                  have c14b0 : decide (x29_1 < (t108.length : Int)) = true := decide_eq_true c14
                  clear c14
                  by_cases c15 : 0 ≤ x29_1
                  · rw [if_pos c15] at H
                    have c15b0 : decide (0 ≤ x29_1) = true := decide_eq_true c15
                    clear c15
                    by_cases c16 : x29_1 < (t108.length : Int)
                    · rw [if_pos c16] at H
                      have c16b0 : decide (x29_1 < (t108.length : Int)) = true := decide_eq_true c16
                      clear c16
                      by_cases c17 : ((rd_T27 t108 x29_1).f0) = x29_1
                      · rw [if_pos c17] at H
                        have c17b0 : (((rd_T27 t108 x29_1).f0) == x29_1) = true := beq_iff_eq.mpr c17
                        have c17b1 : (((rd_T27 t108 x29_1).f0) != x29_1) = false := bne_eq_false_iff_eq.mpr c17
                        clear c17
                        by_cases c18 : x29_1 < (l0.length : Int)
                        · rw [if_pos c18] at H
                          have c18b0 : decide (x29_1 < (l0.length : Int)) = true := decide_eq_true c18
                          clear c18
                          replace H := Option.bind_eq_some_iff.mp H
                          obtain ⟨t115, A190, H⟩ := H
                          replace H : (if ((rd_T27 t108 x29_1).f1) = t115 then ((spec_More.f (rd l0 x29_1)).bind fun t117 => (if (((rd_T27 t108 x29_1).f2) != t117) = true then (none) else (laws_FnParamsEach.l0 k1 l0 a1 t108 (t108.length : Int) (wrap64 (x29_1 + 1))))) else (none)) = some r := H
                          have A19 := Aside0.mk A190
                          clear A190
                          by_cases c20 : ((rd_T27 t108 x29_1).f1) = t115
                          · rw [if_pos c20] at H
                            have c20b0 : (((rd_T27 t108 x29_1).f1) == t115) = true := beq_iff_eq.mpr c20
                            have c20b1 : (((rd_T27 t108 x29_1).f1) != t115) = false := bne_eq_false_iff_eq.mpr c20
                            clear c20
                            replace H := Option.bind_eq_some_iff.mp H
                            obtain ⟨t117, A210, H⟩ := H
                            replace H : (if (((rd_T27 t108 x29_1).f2) != t117) = true then (none) else (laws_FnParamsEach.l0 k1 l0 a1 t108 (t108.length : Int) (wrap64 (x29_1 + 1)))) = some r := H
                            have A21 := Aside0.mk A210
                            clear A210
                            by_cases c22 : (((rd_T27 t108 x29_1).f2) != t117) = true
                            · rw [if_pos c22] at H
                              exact absurd H (by simp)
                            · rw [if_neg c22] at H
                              have c22b0 : (((rd_T27 t108 x29_1).f2) != t117) = false := by simpa using c22
                              (try (have c22b1 : decide (((rd_T27 t108 x29_1).f2) = t117) = true := by simpa using c22))
                              (try (have c22b2 : (((rd_T27 t108 x29_1).f2) == t117) = true := by simpa using c22))
                              clear c22
                              have H' := Aside0.mk H
                              clear H
                              have p112 : 0 ≤ (x29_1 : Int) := of_decide_eq_true (by first | (with_reducible assumption) | assumption)
                              have q112 : x29_1 < (t108.length : Int) := of_decide_eq_true (by first | (with_reducible assumption) | assumption)
                              obtain ⟨ad112, e112, hx112_0, hx112_1, hx112_2⟩ := at_T27 (Kd.R_reads' HO_27.out).2.2 x29_1 p112 q112
                              cases e112
                              replace p112 := eq_true p112
                              replace q112 := eq_true q112
                              go_wp2_with (first | ((with_reducible refine gate_dst (N := 7) rfl ?_); refine box_event ?hg (N := 7) ?hd (cs := #[.int .i64 0, .int .i64 0, .bool false]) (t := 27) ?hr ?_; (case hd => rfl); (case hg => rfl); (case hr => first | (go_simp; done) | (go_simp; rfl)); intro gb113 hg w23 hbox hb; have n0_ := Aside0.mk (Kd.R_below (Kd.R_elderB (by (with_reducible repeat (first | apply Kd.R_alloc | apply Go.Proofs.Ytiledebjfflmmaa.Ext.R_bytes | apply Kd.R_drewN | apply Kd.R_drew)); exact HO_27.out) gb113 (Nat.le_of_eq hg.symm)) hb); have n1_ := Aside0.mk (below_step (by repeat (first | (with_reducible first | exact HB.out | apply below_alloc | apply Go.Proofs.Ytiledebjfflmmaa.Ext.below_bytes | apply pw_below_drewN | apply below_drew1) | exact HB.out)) hb); have n2_ := Aside0.mk (hbox); have n3_ := Aside0.mk ((by rw [hg]; exact (below_size (by repeat (first | (with_reducible first | exact HB.out | apply below_alloc | apply Go.Proofs.Ytiledebjfflmmaa.Ext.below_bytes | apply pw_below_drewN | apply below_drew1) | exact HB.out))) : w.heap.size ≤ gb113)); have n4_ := Aside0.mk ((by rw [hg]; exact (below_size (by repeat (first | (with_reducible first | exact HB.out | apply below_alloc | apply Go.Proofs.Ytiledebjfflmmaa.Ext.below_bytes | apply pw_below_drewN | apply below_drew1) | exact HB.out))) : w.heap.size ≤ gb113)); clear HO_27; clear HB; have HO_27 := n0_; have HB := n1_; have BK113 := n2_; have GW113 := n3_; have GE113 := n4_; clear n0_ n1_ n2_ n3_ n4_; clear hb hbox hg; have hcz24_0 : w23.cell? ⟨gb113, 0, none⟩ = some (.int .i64 0) := (blk_cell BK113.out 0).trans rfl; have hcz24_1 : w23.cell? ⟨gb113, 1, none⟩ = some (.int .i64 0) := (blk_cell BK113.out 1).trans rfl; have hcz24_2 : w23.cell? ⟨gb113, 2, none⟩ = some (.bool false) := (blk_cell BK113.out 2).trans rfl; have hfz24_0 := blk_frozen BK113.out 0; have hfz24_1 := blk_frozen BK113.out 1; have hfz24_2 := blk_frozen BK113.out 2; have p114 : 0 ≤ (x29_1 : Int) := of_decide_eq_true (by first | (with_reducible assumption) | assumption); have q114 : x29_1 < (l0.length : Int) := of_decide_eq_true (by first | (with_reducible assumption) | assumption); obtain ⟨ad114, e114, hx114_0⟩ := Kd.at_int HR0.out x29_1 p114 q114; cases e114; have hn114_0 : ad114.block ≠ gb113 := Nat.ne_of_lt (Nat.lt_of_lt_of_le (by have := World.block_lt_of_cell? _ _ hx114_0; first | rwa [add_block] at this | exact this) GW113.out); have hn114_1 : ad114.block ≠ gb113 := Nat.ne_of_lt (Nat.lt_of_lt_of_le (by have := World.block_lt_of_cell? _ _ hx114_0; first | rwa [add_block] at this | exact this) GW113.out); have hn114_2 : ad114.block ≠ gb113 := Nat.ne_of_lt (Nat.lt_of_lt_of_le (by have := World.block_lt_of_cell? _ _ hx114_0; first | rwa [add_block] at this | exact this) GW113.out); replace hx114_0 := (HB.out.cell (World.block_lt_of_cell? w _ hx114_0)).trans hx114_0; replace hx114_0 := (cell_far (p := ⟨gb113, 0, none⟩) (by first | (rw [add_block]; exact hn114_0) | (show (Addr.add _ _).block ≠ _; rw [add_block]; exact hn114_0) | exact hn114_0) (.int .i64 ((rd_T27 t108 x29_1).f0))).trans hx114_0; replace hx114_0 := (cell_far (p := ⟨gb113, 1, none⟩) (by first | (rw [add_block]; exact hn114_1) | (show (Addr.add _ _).block ≠ _; rw [add_block]; exact hn114_1) | exact hn114_1) (.int .i64 ((rd_T27 t108 x29_1).f1))).trans hx114_0; replace hx114_0 := (cell_far (p := ⟨gb113, 2, none⟩) (by first | (rw [add_block]; exact hn114_2) | (show (Addr.add _ _).block ≠ _; rw [add_block]; exact hn114_2) | exact hn114_2) (.bool ((rd_T27 t108 x29_1).f2))).trans hx114_0; (try have hy114_0 := fun (n_ : Nat) => (show (((((w23.drewN n_).setCell ⟨gb113, 0, none⟩ (.int .i64 ((rd_T27 t108 x29_1).f0))).setCell ⟨gb113, 1, none⟩ (.int .i64 ((rd_T27 t108 x29_1).f1))).setCell ⟨gb113, 2, none⟩ (.bool ((rd_T27 t108 x29_1).f2)))).cell? _ = some _ from hx114_0)); clear hn114_0; clear hn114_1; clear hn114_2; replace p114 := eq_true p114; replace q114 := eq_true q114) | (go_at_call 7; (with_reducible refine (spec_Or.calls (rd l0 x29_1) a1 t115 _ A19.out).mono ?_); rintro e w' ⟨rfl, ⟨nd, rfl⟩⟩; (try first | exact ⟨rfl, _, World.drewN_drewN _ _ _⟩ | exact ⟨rfl, _, Eq.trans (World.drewN_drewN _ _ _) (congrArg (World.drewN _) (Nat.add_assoc _ _ _))⟩); have p116 : 0 ≤ (x29_1 : Int) := of_decide_eq_true (by first | (with_reducible assumption) | assumption); have q116 : x29_1 < (l0.length : Int) := of_decide_eq_true (by first | (with_reducible assumption) | assumption); obtain ⟨ad116, e116, hx116_0⟩ := Kd.at_int HR0.out x29_1 p116 q116; obtain rfl : ad114 = ad116 := (by injection e116); have hn116_0 : ad114.block ≠ gb113 := Nat.ne_of_lt (Nat.lt_of_lt_of_le (by have := World.block_lt_of_cell? _ _ hx116_0; first | rwa [add_block] at this | exact this) GW113.out); have hn116_1 : ad114.block ≠ gb113 := Nat.ne_of_lt (Nat.lt_of_lt_of_le (by have := World.block_lt_of_cell? _ _ hx116_0; first | rwa [add_block] at this | exact this) GW113.out); have hn116_2 : ad114.block ≠ gb113 := Nat.ne_of_lt (Nat.lt_of_lt_of_le (by have := World.block_lt_of_cell? _ _ hx116_0; first | rwa [add_block] at this | exact this) GW113.out); replace hx116_0 := (HB.out.cell (World.block_lt_of_cell? w _ hx116_0)).trans hx116_0; replace hx116_0 := (cell_far (p := ⟨gb113, 0, none⟩) (by first | (rw [add_block]; exact hn116_0) | (show (Addr.add _ _).block ≠ _; rw [add_block]; exact hn116_0) | exact hn116_0) (.int .i64 ((rd_T27 t108 x29_1).f0))).trans hx116_0; replace hx116_0 := (cell_far (p := ⟨gb113, 1, none⟩) (by first | (rw [add_block]; exact hn116_1) | (show (Addr.add _ _).block ≠ _; rw [add_block]; exact hn116_1) | exact hn116_1) (.int .i64 ((rd_T27 t108 x29_1).f1))).trans hx116_0; replace hx116_0 := (cell_far (p := ⟨gb113, 2, none⟩) (by first | (rw [add_block]; exact hn116_2) | (show (Addr.add _ _).block ≠ _; rw [add_block]; exact hn116_2) | exact hn116_2) (.bool ((rd_T27 t108 x29_1).f2))).trans hx116_0; (try have hy116_0 := fun (n_ : Nat) => (show (((((w23.drewN n_).setCell ⟨gb113, 0, none⟩ (.int .i64 ((rd_T27 t108 x29_1).f0))).setCell ⟨gb113, 1, none⟩ (.int .i64 ((rd_T27 t108 x29_1).f1))).setCell ⟨gb113, 2, none⟩ (.bool ((rd_T27 t108 x29_1).f2)))).cell? _ = some _ from hx116_0)); clear hn116_0; clear hn116_1; clear hn116_2; replace p116 := eq_true p116; replace q116 := eq_true q116) | (go_at_call 8; (with_reducible refine (spec_More.calls (rd l0 x29_1) t117 _ A21.out).mono ?_); rintro e w' ⟨rfl, ⟨nd, rfl⟩⟩; (try first | exact ⟨rfl, _, World.drewN_drewN _ _ _⟩ | exact ⟨rfl, _, Eq.trans (World.drewN_drewN _ _ _) (congrArg (World.drewN _) (Nat.add_assoc _ _ _))⟩)))
                              repeat (go_quiet (first | ((with_reducible refine gate_dst (N := 7) rfl ?_); refine box_event ?hg (N := 7) ?hd (cs := #[.int .i64 0, .int .i64 0, .bool false]) (t := 27) ?hr ?_; (case hd => rfl); (case hg => rfl); (case hr => first | (go_simp; done) | (go_simp; rfl)); intro gb113 hg w23 hbox hb; have n0_ := Aside0.mk (Kd.R_below (Kd.R_elderB (by (with_reducible repeat (first | apply Kd.R_alloc | apply Go.Proofs.Ytiledebjfflmmaa.Ext.R_bytes | apply Kd.R_drewN | apply Kd.R_drew)); exact HO_27.out) gb113 (Nat.le_of_eq hg.symm)) hb); have n1_ := Aside0.mk (below_step (by repeat (first | (with_reducible first | exact HB.out | apply below_alloc | apply Go.Proofs.Ytiledebjfflmmaa.Ext.below_bytes | apply pw_below_drewN | apply below_drew1) | exact HB.out)) hb); have n2_ := Aside0.mk (hbox); have n3_ := Aside0.mk ((by rw [hg]; exact (below_size (by repeat (first | (with_reducible first | exact HB.out | apply below_alloc | apply Go.Proofs.Ytiledebjfflmmaa.Ext.below_bytes | apply pw_below_drewN | apply below_drew1) | exact HB.out))) : w.heap.size ≤ gb113)); have n4_ := Aside0.mk ((by rw [hg]; exact (below_size (by repeat (first | (with_reducible first | exact HB.out | apply below_alloc | apply Go.Proofs.Ytiledebjfflmmaa.Ext.below_bytes | apply pw_below_drewN | apply below_drew1) | exact HB.out))) : w.heap.size ≤ gb113)); clear HO_27; clear HB; have HO_27 := n0_; have HB := n1_; have BK113 := n2_; have GW113 := n3_; have GE113 := n4_; clear n0_ n1_ n2_ n3_ n4_; clear hb hbox hg; have hcz24_0 : w23.cell? ⟨gb113, 0, none⟩ = some (.int .i64 0) := (blk_cell BK113.out 0).trans rfl; have hcz24_1 : w23.cell? ⟨gb113, 1, none⟩ = some (.int .i64 0) := (blk_cell BK113.out 1).trans rfl; have hcz24_2 : w23.cell? ⟨gb113, 2, none⟩ = some (.bool false) := (blk_cell BK113.out 2).trans rfl; have hfz24_0 := blk_frozen BK113.out 0; have hfz24_1 := blk_frozen BK113.out 1; have hfz24_2 := blk_frozen BK113.out 2; have p114 : 0 ≤ (x29_1 : Int) := of_decide_eq_true (by first | (with_reducible assumption) | assumption); have q114 : x29_1 < (l0.length : Int) := of_decide_eq_true (by first | (with_reducible assumption) | assumption); obtain ⟨ad114, e114, hx114_0⟩ := Kd.at_int HR0.out x29_1 p114 q114; cases e114; have hn114_0 : ad114.block ≠ gb113 := Nat.ne_of_lt (Nat.lt_of_lt_of_le (by have := World.block_lt_of_cell? _ _ hx114_0; first | rwa [add_block] at this | exact this) GW113.out); have hn114_1 : ad114.block ≠ gb113 := Nat.ne_of_lt (Nat.lt_of_lt_of_le (by have := World.block_lt_of_cell? _ _ hx114_0; first | rwa [add_block] at this | exact this) GW113.out); have hn114_2 : ad114.block ≠ gb113 := Nat.ne_of_lt (Nat.lt_of_lt_of_le (by have := World.block_lt_of_cell? _ _ hx114_0; first | rwa [add_block] at this | exact this) GW113.out); replace hx114_0 := (HB.out.cell (World.block_lt_of_cell? w _ hx114_0)).trans hx114_0; replace hx114_0 := (cell_far (p := ⟨gb113, 0, none⟩) (by first | (rw [add_block]; exact hn114_0) | (show (Addr.add _ _).block ≠ _; rw [add_block]; exact hn114_0) | exact hn114_0) (.int .i64 ((rd_T27 t108 x29_1).f0))).trans hx114_0; replace hx114_0 := (cell_far (p := ⟨gb113, 1, none⟩) (by first | (rw [add_block]; exact hn114_1) | (show (Addr.add _ _).block ≠ _; rw [add_block]; exact hn114_1) | exact hn114_1) (.int .i64 ((rd_T27 t108 x29_1).f1))).trans hx114_0; replace hx114_0 := (cell_far (p := ⟨gb113, 2, none⟩) (by first | (rw [add_block]; exact hn114_2) | (show (Addr.add _ _).block ≠ _; rw [add_block]; exact hn114_2) | exact hn114_2) (.bool ((rd_T27 t108 x29_1).f2))).trans hx114_0; (try have hy114_0 := fun (n_ : Nat) => (show (((((w23.drewN n_).setCell ⟨gb113, 0, none⟩ (.int .i64 ((rd_T27 t108 x29_1).f0))).setCell ⟨gb113, 1, none⟩ (.int .i64 ((rd_T27 t108 x29_1).f1))).setCell ⟨gb113, 2, none⟩ (.bool ((rd_T27 t108 x29_1).f2)))).cell? _ = some _ from hx114_0)); clear hn114_0; clear hn114_1; clear hn114_2; replace p114 := eq_true p114; replace q114 := eq_true q114) | (go_at_call 7; (with_reducible refine (spec_Or.calls (rd l0 x29_1) a1 t115 _ A19.out).mono ?_); rintro e w' ⟨rfl, ⟨nd, rfl⟩⟩; (try first | exact ⟨rfl, _, World.drewN_drewN _ _ _⟩ | exact ⟨rfl, _, Eq.trans (World.drewN_drewN _ _ _) (congrArg (World.drewN _) (Nat.add_assoc _ _ _))⟩); have p116 : 0 ≤ (x29_1 : Int) := of_decide_eq_true (by first | (with_reducible assumption) | assumption); have q116 : x29_1 < (l0.length : Int) := of_decide_eq_true (by first | (with_reducible assumption) | assumption); obtain ⟨ad116, e116, hx116_0⟩ := Kd.at_int HR0.out x29_1 p116 q116; obtain rfl : ad114 = ad116 := (by injection e116); have hn116_0 : ad114.block ≠ gb113 := Nat.ne_of_lt (Nat.lt_of_lt_of_le (by have := World.block_lt_of_cell? _ _ hx116_0; first | rwa [add_block] at this | exact this) GW113.out); have hn116_1 : ad114.block ≠ gb113 := Nat.ne_of_lt (Nat.lt_of_lt_of_le (by have := World.block_lt_of_cell? _ _ hx116_0; first | rwa [add_block] at this | exact this) GW113.out); have hn116_2 : ad114.block ≠ gb113 := Nat.ne_of_lt (Nat.lt_of_lt_of_le (by have := World.block_lt_of_cell? _ _ hx116_0; first | rwa [add_block] at this | exact this) GW113.out); replace hx116_0 := (HB.out.cell (World.block_lt_of_cell? w _ hx116_0)).trans hx116_0; replace hx116_0 := (cell_far (p := ⟨gb113, 0, none⟩) (by first | (rw [add_block]; exact hn116_0) | (show (Addr.add _ _).block ≠ _; rw [add_block]; exact hn116_0) | exact hn116_0) (.int .i64 ((rd_T27 t108 x29_1).f0))).trans hx116_0; replace hx116_0 := (cell_far (p := ⟨gb113, 1, none⟩) (by first | (rw [add_block]; exact hn116_1) | (show (Addr.add _ _).block ≠ _; rw [add_block]; exact hn116_1) | exact hn116_1) (.int .i64 ((rd_T27 t108 x29_1).f1))).trans hx116_0; replace hx116_0 := (cell_far (p := ⟨gb113, 2, none⟩) (by first | (rw [add_block]; exact hn116_2) | (show (Addr.add _ _).block ≠ _; rw [add_block]; exact hn116_2) | exact hn116_2) (.bool ((rd_T27 t108 x29_1).f2))).trans hx116_0; (try have hy116_0 := fun (n_ : Nat) => (show (((((w23.drewN n_).setCell ⟨gb113, 0, none⟩ (.int .i64 ((rd_T27 t108 x29_1).f0))).setCell ⟨gb113, 1, none⟩ (.int .i64 ((rd_T27 t108 x29_1).f1))).setCell ⟨gb113, 2, none⟩ (.bool ((rd_T27 t108 x29_1).f2)))).cell? _ = some _ from hx116_0)); clear hn116_0; clear hn116_1; clear hn116_2; replace p116 := eq_true p116; replace q116 := eq_true q116) | (go_at_call 8; (with_reducible refine (spec_More.calls (rd l0 x29_1) t117 _ A21.out).mono ?_); rintro e w' ⟨rfl, ⟨nd, rfl⟩⟩; (try first | exact ⟨rfl, _, World.drewN_drewN _ _ _⟩ | exact ⟨rfl, _, Eq.trans (World.drewN_drewN _ _ _) (congrArg (World.drewN _) (Nat.add_assoc _ _ _))⟩))); try go_wp2_with (first | ((with_reducible refine gate_dst (N := 7) rfl ?_); refine box_event ?hg (N := 7) ?hd (cs := #[.int .i64 0, .int .i64 0, .bool false]) (t := 27) ?hr ?_; (case hd => rfl); (case hg => rfl); (case hr => first | (go_simp; done) | (go_simp; rfl)); intro gb113 hg w23 hbox hb; have n0_ := Aside0.mk (Kd.R_below (Kd.R_elderB (by (with_reducible repeat (first | apply Kd.R_alloc | apply Go.Proofs.Ytiledebjfflmmaa.Ext.R_bytes | apply Kd.R_drewN | apply Kd.R_drew)); exact HO_27.out) gb113 (Nat.le_of_eq hg.symm)) hb); have n1_ := Aside0.mk (below_step (by repeat (first | (with_reducible first | exact HB.out | apply below_alloc | apply Go.Proofs.Ytiledebjfflmmaa.Ext.below_bytes | apply pw_below_drewN | apply below_drew1) | exact HB.out)) hb); have n2_ := Aside0.mk (hbox); have n3_ := Aside0.mk ((by rw [hg]; exact (below_size (by repeat (first | (with_reducible first | exact HB.out | apply below_alloc | apply Go.Proofs.Ytiledebjfflmmaa.Ext.below_bytes | apply pw_below_drewN | apply below_drew1) | exact HB.out))) : w.heap.size ≤ gb113)); have n4_ := Aside0.mk ((by rw [hg]; exact (below_size (by repeat (first | (with_reducible first | exact HB.out | apply below_alloc | apply Go.Proofs.Ytiledebjfflmmaa.Ext.below_bytes | apply pw_below_drewN | apply below_drew1) | exact HB.out))) : w.heap.size ≤ gb113)); clear HO_27; clear HB; have HO_27 := n0_; have HB := n1_; have BK113 := n2_; have GW113 := n3_; have GE113 := n4_; clear n0_ n1_ n2_ n3_ n4_; clear hb hbox hg; have hcz24_0 : w23.cell? ⟨gb113, 0, none⟩ = some (.int .i64 0) := (blk_cell BK113.out 0).trans rfl; have hcz24_1 : w23.cell? ⟨gb113, 1, none⟩ = some (.int .i64 0) := (blk_cell BK113.out 1).trans rfl; have hcz24_2 : w23.cell? ⟨gb113, 2, none⟩ = some (.bool false) := (blk_cell BK113.out 2).trans rfl; have hfz24_0 := blk_frozen BK113.out 0; have hfz24_1 := blk_frozen BK113.out 1; have hfz24_2 := blk_frozen BK113.out 2; have p114 : 0 ≤ (x29_1 : Int) := of_decide_eq_true (by first | (with_reducible assumption) | assumption); have q114 : x29_1 < (l0.length : Int) := of_decide_eq_true (by first | (with_reducible assumption) | assumption); obtain ⟨ad114, e114, hx114_0⟩ := Kd.at_int HR0.out x29_1 p114 q114; cases e114; have hn114_0 : ad114.block ≠ gb113 := Nat.ne_of_lt (Nat.lt_of_lt_of_le (by have := World.block_lt_of_cell? _ _ hx114_0; first | rwa [add_block] at this | exact this) GW113.out); have hn114_1 : ad114.block ≠ gb113 := Nat.ne_of_lt (Nat.lt_of_lt_of_le (by have := World.block_lt_of_cell? _ _ hx114_0; first | rwa [add_block] at this | exact this) GW113.out); have hn114_2 : ad114.block ≠ gb113 := Nat.ne_of_lt (Nat.lt_of_lt_of_le (by have := World.block_lt_of_cell? _ _ hx114_0; first | rwa [add_block] at this | exact this) GW113.out); replace hx114_0 := (HB.out.cell (World.block_lt_of_cell? w _ hx114_0)).trans hx114_0; replace hx114_0 := (cell_far (p := ⟨gb113, 0, none⟩) (by first | (rw [add_block]; exact hn114_0) | (show (Addr.add _ _).block ≠ _; rw [add_block]; exact hn114_0) | exact hn114_0) (.int .i64 ((rd_T27 t108 x29_1).f0))).trans hx114_0; replace hx114_0 := (cell_far (p := ⟨gb113, 1, none⟩) (by first | (rw [add_block]; exact hn114_1) | (show (Addr.add _ _).block ≠ _; rw [add_block]; exact hn114_1) | exact hn114_1) (.int .i64 ((rd_T27 t108 x29_1).f1))).trans hx114_0; replace hx114_0 := (cell_far (p := ⟨gb113, 2, none⟩) (by first | (rw [add_block]; exact hn114_2) | (show (Addr.add _ _).block ≠ _; rw [add_block]; exact hn114_2) | exact hn114_2) (.bool ((rd_T27 t108 x29_1).f2))).trans hx114_0; (try have hy114_0 := fun (n_ : Nat) => (show (((((w23.drewN n_).setCell ⟨gb113, 0, none⟩ (.int .i64 ((rd_T27 t108 x29_1).f0))).setCell ⟨gb113, 1, none⟩ (.int .i64 ((rd_T27 t108 x29_1).f1))).setCell ⟨gb113, 2, none⟩ (.bool ((rd_T27 t108 x29_1).f2)))).cell? _ = some _ from hx114_0)); clear hn114_0; clear hn114_1; clear hn114_2; replace p114 := eq_true p114; replace q114 := eq_true q114) | (go_at_call 7; (with_reducible refine (spec_Or.calls (rd l0 x29_1) a1 t115 _ A19.out).mono ?_); rintro e w' ⟨rfl, ⟨nd, rfl⟩⟩; (try first | exact ⟨rfl, _, World.drewN_drewN _ _ _⟩ | exact ⟨rfl, _, Eq.trans (World.drewN_drewN _ _ _) (congrArg (World.drewN _) (Nat.add_assoc _ _ _))⟩); have p116 : 0 ≤ (x29_1 : Int) := of_decide_eq_true (by first | (with_reducible assumption) | assumption); have q116 : x29_1 < (l0.length : Int) := of_decide_eq_true (by first | (with_reducible assumption) | assumption); obtain ⟨ad116, e116, hx116_0⟩ := Kd.at_int HR0.out x29_1 p116 q116; obtain rfl : ad114 = ad116 := (by injection e116); have hn116_0 : ad114.block ≠ gb113 := Nat.ne_of_lt (Nat.lt_of_lt_of_le (by have := World.block_lt_of_cell? _ _ hx116_0; first | rwa [add_block] at this | exact this) GW113.out); have hn116_1 : ad114.block ≠ gb113 := Nat.ne_of_lt (Nat.lt_of_lt_of_le (by have := World.block_lt_of_cell? _ _ hx116_0; first | rwa [add_block] at this | exact this) GW113.out); have hn116_2 : ad114.block ≠ gb113 := Nat.ne_of_lt (Nat.lt_of_lt_of_le (by have := World.block_lt_of_cell? _ _ hx116_0; first | rwa [add_block] at this | exact this) GW113.out); replace hx116_0 := (HB.out.cell (World.block_lt_of_cell? w _ hx116_0)).trans hx116_0; replace hx116_0 := (cell_far (p := ⟨gb113, 0, none⟩) (by first | (rw [add_block]; exact hn116_0) | (show (Addr.add _ _).block ≠ _; rw [add_block]; exact hn116_0) | exact hn116_0) (.int .i64 ((rd_T27 t108 x29_1).f0))).trans hx116_0; replace hx116_0 := (cell_far (p := ⟨gb113, 1, none⟩) (by first | (rw [add_block]; exact hn116_1) | (show (Addr.add _ _).block ≠ _; rw [add_block]; exact hn116_1) | exact hn116_1) (.int .i64 ((rd_T27 t108 x29_1).f1))).trans hx116_0; replace hx116_0 := (cell_far (p := ⟨gb113, 2, none⟩) (by first | (rw [add_block]; exact hn116_2) | (show (Addr.add _ _).block ≠ _; rw [add_block]; exact hn116_2) | exact hn116_2) (.bool ((rd_T27 t108 x29_1).f2))).trans hx116_0; (try have hy116_0 := fun (n_ : Nat) => (show (((((w23.drewN n_).setCell ⟨gb113, 0, none⟩ (.int .i64 ((rd_T27 t108 x29_1).f0))).setCell ⟨gb113, 1, none⟩ (.int .i64 ((rd_T27 t108 x29_1).f1))).setCell ⟨gb113, 2, none⟩ (.bool ((rd_T27 t108 x29_1).f2)))).cell? _ = some _ from hx116_0)); clear hn116_0; clear hn116_1; clear hn116_2; replace p116 := eq_true p116; replace q116 := eq_true q116) | (go_at_call 8; (with_reducible refine (spec_More.calls (rd l0 x29_1) t117 _ A21.out).mono ?_); rintro e w' ⟨rfl, ⟨nd, rfl⟩⟩; (try first | exact ⟨rfl, _, World.drewN_drewN _ _ _⟩ | exact ⟨rfl, _, Eq.trans (World.drewN_drewN _ _ _) (congrArg (World.drewN _) (Nat.add_assoc _ _ _))⟩))))
                              go_roundg k1
                              case measure => have := HK1.out; omega
                              case rel => exact ⟨(wrap64 (x29_1 + 1)), (by first | rfl | (simp; done) | (simp [*]; done)), H', ⟨by have := HK1.out; omega⟩, ⟨by (with_reducible repeat (first | apply Kd.R_alloc | apply Go.Proofs.Ytiledebjfflmmaa.Ext.R_bytes | apply Kd.R_drewN | apply Kd.R_drew)); exact Kd.R_mono (Kd.R_far (p := ⟨gb113, 2, none⟩) (Kd.R_far (p := ⟨gb113, 1, none⟩) (Kd.R_far (p := ⟨gb113, 0, none⟩) (Kd.R_mono HO_27.out (fun k_ hk => (⟨hk, hk.2⟩ : _ ∧ k_ ≠ gb113))) (fun _ hk => hk.2) (.int .i64 ((rd_T27 t108 x29_1).f0))) (fun _ hk => hk.2) (.int .i64 ((rd_T27 t108 x29_1).f1))) (fun _ hk => hk.2) (.bool ((rd_T27 t108 x29_1).f2))) (fun _ hk => trivial)⟩, ⟨by repeat (first | (with_reducible first | exact HB.out | apply below_alloc | apply Go.Proofs.Ytiledebjfflmmaa.Ext.below_bytes | apply pw_below_drewN | apply below_drew1 | refine below_set ?_ GE113.out) | exact HB.out)⟩⟩
                          · rw [if_neg c20] at H
                            exact absurd H (by simp)
                        · rw [if_neg c18] at H
                          exact absurd H (by simp)
                      · rw [if_neg c17] at H
                        exact absurd H (by simp)
                    · rw [if_neg c16] at H
                      exact absurd H (by simp)
                  · rw [if_neg c15] at H
                    exact absurd H (by simp)
                · rw [if_neg c14] at H
                  have c14b0 : decide (x29_1 < (t108.length : Int)) = false := decide_eq_false c14
                  clear c14
                  obtain rfl := Option.some.inj H
                  go_wp2
                  repeat (go_quiet (fail); try go_wp2)
                  go_ret
                  exact ⟨by first | rfl | (simp [errW_none, errW_some] <;> rfl) | (simp [*, errW_none, errW_some] <;> rfl), by repeat (first | (with_reducible first | exact HB.out | apply below_alloc | apply Go.Proofs.Ytiledebjfflmmaa.Ext.below_bytes | apply pw_below_drewN | apply below_drew1) | exact HB.out)⟩
          · replace c9 := Bool.eq_false_iff.mpr c9
            subst c9
            have H1 : (none) = some r := by rw [if_neg (show ¬ (false = true) by decide)] at H; exact H
            clear H
            have H := H1
            clear H1
            exact absurd H (by simp)
        · rw [if_neg c7] at H
          exact absurd H (by simp)
      · rw [if_neg c5] at H
        exact absurd H (by simp)

/-- THE ONE PURE STATEMENT of laws_FnParamsEach: yours. -/
def laws_FnParamsEach.Pure : Prop := ∀ (l0 : List Int) (a1 : Int), l0.length ≤ maxLen → l0.length * 8 ≤ 140737488351232 → (∀ x ∈ l0, (Lit.int .i64 x).wf = true) → (Lit.int .i64 a1).wf = true → ∃ k, laws_FnParamsEach.f k l0 a1 = some true
theorem laws_FnParamsEach.walk (P : laws_FnParamsEach.Pure) (a0 : Option Addr) (len0 cap0 : Nat) (z0 : List Int) (a1 : Int) (w : World) (w0 : (a0 = none ∧ len0 = 0 ∧ cap0 = 0 ∧ z0 = []) ∨ ∃ x, a0 = some x ∧ len0 ≤ cap0 ∧ cap0 ≤ maxLen ∧ z0.length = cap0 ∧ (∀ i, i < z0.length → w.cell? (x.add i) = some (.int .i64 (z0.getD i 0))) ∧ ∀ n ∈ z0, (Lit.int .i64 n).wf = true) (y0 : len0 * 8 ≤ 140737488351232) (w1 : (Lit.int .i64 a1).wf = true) :
    Calls Try.prog 3 #[.slice a0 len0 cap0, .int .i64 a1] w fun e w' => e = .returned (.bool true) ∧ Below w.heap.size w w' := by
  obtain ⟨l0, rfl, hr0, hm0, hw0, hc0⟩ := ReadsInt.ofRowC w0
  obtain ⟨k, h⟩ := P l0 a1 hm0 y0 hw0 w1
  refine (laws_FnParamsEach.calls k _ _ l0 a1 true w (Kd.C_of_reads (d := (0 : Int)) (h1 := fun _ => rfl) hr0) hc0 h).mono ?_
  rintro e w' ⟨rfl, hd⟩
  exact ⟨rfl, hd⟩

/-! ### spec_PlainAt: function 10 -/
def spec_PlainAt.f (l0 : List Int) (a1 : Int) : Option (Int) := if a1 < 0 then (some (-1)) else (if a1 ≥ (l0.length : Int) then (some (-1)) else (if 0 ≤ a1 then (if a1 < (l0.length : Int) then ((spec_Or.f (rd l0 a1) (-1)).bind fun t119 => (some t119)) else (none)) else (none)))
set_option maxHeartbeats 8000000 in
set_option maxRecDepth 100000 in
theorem spec_PlainAt.calls (A0 : Option Addr) (c0 : Nat) (l0 : List Int) (a1 : Int) (r : Int) (w : World) (hr0 : Kd.C (Kd.int .i64) w A0 l0.length l0) (hc0 : l0.length ≤ c0) (h : spec_PlainAt.f l0 a1 = some r) :
    Calls Try.prog 10 #[.slice A0 l0.length c0, .int .i64 a1] w fun e w' => e = .returned (.int .i64 r) ∧ Drawn0 w w' := by
  have HR0 := Aside0.mk hr0
  have HC0 := Aside0.mk hc0
  clear hr0 hc0
  have H : (if a1 < 0 then (some (-1)) else (if a1 ≥ (l0.length : Int) then (some (-1)) else (if 0 ≤ a1 then (if a1 < (l0.length : Int) then ((spec_Or.f (rd l0 a1) (-1)).bind fun t119 => (some t119)) else (none)) else (none)))) = some r := h
  clear h
  by_cases c3 : a1 < 0
  · rw [if_pos c3] at H
    have c3b0 : decide (a1 < 0) = true := decide_eq_true c3
    clear c3
    obtain rfl := Option.some.inj H
    go_enter Try.func10, Try.ntmps10
    go_wp2
    go_ret
    exact ⟨by first | rfl | (simp; done) | (simp [*]; done), by repeat (first | exact Drawn0.refl _ | apply Drawn0.step)⟩
  · rw [if_neg c3] at H
    have c3b0 : decide (a1 < 0) = false := decide_eq_false c3
    clear c3
    by_cases c4 : a1 ≥ (l0.length : Int)
    · rw [if_pos c4] at H
      have c4b0 : decide ((l0.length : Int) ≤ a1) = true := decide_eq_true c4
      clear c4
      obtain rfl := Option.some.inj H
      go_enter Try.func10, Try.ntmps10
      go_wp2
      go_ret
      exact ⟨by first | rfl | (simp; done) | (simp [*]; done), by repeat (first | exact Drawn0.refl _ | apply Drawn0.step)⟩
    · rw [if_neg c4] at H
      have c4b0 : decide ((l0.length : Int) ≤ a1) = false := decide_eq_false c4
      clear c4
      by_cases c5 : 0 ≤ a1
      · rw [if_pos c5] at H
        have c5b0 : decide (0 ≤ a1) = true := decide_eq_true c5
        clear c5
        by_cases c6 : a1 < (l0.length : Int)
        · rw [if_pos c6] at H
          have c6b0 : decide (a1 < (l0.length : Int)) = true := decide_eq_true c6
          clear c6
          replace H := Option.bind_eq_some_iff.mp H
          obtain ⟨t119, A70, H⟩ := H
          replace H : (some t119) = some r := H
          have A7 := Aside0.mk A70
          clear A70
          obtain rfl := Option.some.inj H
          have p118 : 0 ≤ (a1 : Int) := of_decide_eq_true (by first | (with_reducible assumption) | assumption)
          have q118 : a1 < (l0.length : Int) := of_decide_eq_true (by first | (with_reducible assumption) | assumption)
          obtain ⟨ad118, e118, hx118_0⟩ := Kd.at_int HR0.out a1 p118 q118
          cases e118
          replace p118 := eq_true p118
          replace q118 := eq_true q118
          go_enter Try.func10, Try.ntmps10
          go_wp2_with (first | ((with_reducible refine gate_callee (f := 7) rfl ?_); refine goesL_ (some 17) rfl rfl Try.func7 (by kernel_rfl) rfl #[.int .i64 (rd l0 a1), .int .i64 (-1)] rfl (by (try simp only [List.map_toArray, List.map_cons, List.map_nil]); first | done | rfl | (simp only [List.length_drop, List.length_take]; rfl) | (simp [Act.eval, *]; done) | (simp [Act.eval, *]; unfold wrap64; omega)) ?_; (with_reducible refine (spec_Or.calls (rd l0 a1) (-1) t119 _ A7.out).mono ?_); rintro e w' ⟨rfl, ⟨nd, rfl⟩⟩; refine ⟨_, rfl, ?_⟩))
          go_ret
          exact ⟨by first | rfl | (simp; done) | (simp [*]; done), by repeat (first | exact Drawn0.refl _ | apply Drawn0.step)⟩
        · rw [if_neg c6] at H
          exact absurd H (by simp)
      · rw [if_neg c5] at H
        exact absurd H (by simp)

/-! ### laws_FnParamsRange: function 4 -/
mutual
def laws_FnParamsRange.j0 : Nat → List Int → Int → Bool → Option (Bool)
  | 0, _, _, _ => none
  | k + 1, x0, x1, x21 => if x21 = true then (some true) else (if ([] : List Int).length + x0.length < 17592186044416 then ((impl_RangeOf.f (([] : List Int) ++ x0) x1).bind fun t123 => (if (t123.length : Int) = (mn x1 (x0.length : Int)) then ((laws_packAwake.f).bind fun t126 => (if t126 = true then (laws_FnParamsRange.l0 k x0 t123 (t123.length : Int) 0) else (none))) else (none))) else (none))
def laws_FnParamsRange.l0 : Nat → List Int → List (S27) → Int → Int → Option (Bool)
  | 0, _, _, _, _ => none
  | k + 1, x0, x37, x38, x39 => if x39 < x38 then (if 0 ≤ x39 then (if x39 < (x37.length : Int) then (if ((rd_T27 x37 x39).f0) = x39 then ((spec_PlainAt.f x0 x39).bind fun t129 => (if ((rd_T27 x37 x39).f1) = t129 then (if x39 < (x0.length : Int) then ((spec_More.f (rd x0 x39)).bind fun t131 => (if (((rd_T27 x37 x39).f2) != t131) = true then (none) else (laws_FnParamsRange.l0 k x0 x37 x38 (wrap64 (x39 + 1))))) else (none)) else (none))) else (none)) else (none)) else (none)) else (some true)
end
def laws_FnParamsRange.f (k : Nat) (l0 : List Int) (a1 : Int) : Option (Bool) := if (l0.length : Int) > 2147483647 then (some true) else (if (l0.length : Int) > 100 then (laws_FnParamsRange.j0 k l0 a1 true) else (if a1 < 1 then (laws_FnParamsRange.j0 k l0 a1 true) else (laws_FnParamsRange.j0 k l0 a1 (decide (a1 > 200)))))
theorem laws_FnParamsRange.mono_l : ∀ k, (∀ y0 y1 y2, LeO (laws_FnParamsRange.j0 k y0 y1 y2) (laws_FnParamsRange.j0 (k + 1) y0 y1 y2)) ∧ (∀ y0 y1 y2 y3, LeO (laws_FnParamsRange.l0 k y0 y1 y2 y3) (laws_FnParamsRange.l0 (k + 1) y0 y1 y2 y3))
  | 0 => ⟨fun _ _ _ r h => by simp [laws_FnParamsRange.j0] at h, fun _ _ _ _ r h => by simp [laws_FnParamsRange.l0] at h⟩
  | k + 1 => by
    obtain ⟨ih0, ih1⟩ := laws_FnParamsRange.mono_l k
    refine ⟨?_, ?_⟩
    · intro y0 y1 y2
      unfold laws_FnParamsRange.j0
      repeat' first
      | (with_reducible exact ih0 _ _ _)
      | (with_reducible exact ih1 _ _ _ _)
      | (with_reducible exact LeO.refl _)
      | (with_reducible exact LeO.none _)
      | (with_reducible refine LeO.ite ?_ ?_)
      | (with_reducible refine LeO.bind ?_ (fun _ => ?_))
      | exact ih0 _ _ _
      | exact ih1 _ _ _ _
      | exact LeO.none _
      | refine LeO.ite ?_ ?_
      | refine LeO.bind ?_ (fun _ => ?_)
    · intro y0 y1 y2 y3
      unfold laws_FnParamsRange.l0
      repeat' first
      | (with_reducible exact ih0 _ _ _)
      | (with_reducible exact ih1 _ _ _ _)
      | (with_reducible exact LeO.refl _)
      | (with_reducible exact LeO.none _)
      | (with_reducible refine LeO.ite ?_ ?_)
      | (with_reducible refine LeO.bind ?_ (fun _ => ?_))
      | exact ih0 _ _ _
      | exact ih1 _ _ _ _
      | exact LeO.none _
      | refine LeO.ite ?_ ?_
      | refine LeO.bind ?_ (fun _ => ?_)
theorem laws_FnParamsRange.mono : ∀ a0 a1 k, LeO (laws_FnParamsRange.f k a0 a1) (laws_FnParamsRange.f (k + 1) a0 a1) := by
  intro a0 a1 k
  obtain ⟨ih0, ih1⟩ := laws_FnParamsRange.mono_l k
  unfold laws_FnParamsRange.f
  repeat' first
      | (with_reducible exact ih0 _ _ _)
      | (with_reducible exact ih1 _ _ _ _)
      | (with_reducible exact LeO.refl _)
      | (with_reducible exact LeO.none _)
      | (with_reducible refine LeO.ite ?_ ?_)
      | (with_reducible refine LeO.bind ?_ (fun _ => ?_))
      | exact ih0 _ _ _
      | exact ih1 _ _ _ _
      | exact LeO.none _
      | refine LeO.ite ?_ ?_
      | refine LeO.bind ?_ (fun _ => ?_)
set_option maxHeartbeats 8000000 in
set_option maxRecDepth 100000 in
theorem laws_FnParamsRange.calls (k : Nat) (A0 : Option Addr) (c0 : Nat) (l0 : List Int) (a1 : Int) (r : Bool) (w : World) (hr0 : Kd.C (Kd.int .i64) w A0 l0.length l0) (hc0 : l0.length ≤ c0) (h : laws_FnParamsRange.f k l0 a1 = some r) :
    Calls Try.prog 4 #[.slice A0 l0.length c0, .int .i64 a1] w fun e w' => e = .returned (.bool r) ∧ Below w.heap.size w w' := by
  have hu27 := Try.underlying27
  have HR0 := Aside0.mk hr0
  have HC0 := Aside0.mk hc0
  clear hr0 hc0
  have HB := Aside0.mk (Below.refl w.heap.size w)
  have H : (if (l0.length : Int) > 2147483647 then (some true) else (if (l0.length : Int) > 100 then (laws_FnParamsRange.j0 k l0 a1 true) else (if a1 < 1 then (laws_FnParamsRange.j0 k l0 a1 true) else (laws_FnParamsRange.j0 k l0 a1 (decide (a1 > 200)))))) = some r := h
  clear h
  by_cases c3 : (l0.length : Int) > 2147483647
  · rw [if_pos c3] at H
    have c3b0 : decide (2147483647 < (l0.length : Int)) = true := decide_eq_true c3
    have c3b1 : decide (2147483647 < l0.length) = true := decide_eq_true (by omega)
    clear c3
    obtain rfl := Option.some.inj H
    go_enter Try.func4, Try.ntmps4
    go_wp2
    repeat (go_quiet (fail); try go_wp2)
    go_ret
    exact ⟨by first | rfl | (simp [errW_none, errW_some] <;> rfl) | (simp [*, errW_none, errW_some] <;> rfl), by repeat (first | (with_reducible first | exact HB.out | apply below_alloc | apply Go.Proofs.Ytiledebjfflmmaa.Ext.below_bytes | apply pw_below_drewN | apply below_drew1) | exact HB.out)⟩
  · rw [if_neg c3] at H
    have c3b0 : decide (2147483647 < (l0.length : Int)) = false := decide_eq_false c3
    have c3b1 : decide (2147483647 < l0.length) = false := decide_eq_false (by omega)
    clear c3
    have HC4 := Aside0.mk H
    clear H
    go_enter Try.func4, Try.ntmps4
    go_upto_region 3 with (fail)
    repeat (go_quiet (fail); go_upto_region 3 with (fail))
    go_cut [21] (fun v21 wc => ∃ (kq : Nat) (x21_3 : Bool), v21 = .bool x21_3 ∧ Aside0 (laws_FnParamsRange.j0 kq l0 a1 x21_3 = some r) ∧ Aside0 (kq ≤ k) ∧ Aside0 (Below w.heap.size w wc))
    case first =>
      have H := HC4.out
      clear HC4
      by_cases c5 : (l0.length : Int) > 100
      · rw [if_pos c5] at H
        have c5b0 : decide (100 < (l0.length : Int)) = true := decide_eq_true c5
        have c5b1 : decide (100 < l0.length) = true := decide_eq_true (by omega)
        clear c5
        (first | rw [c5b0] | (simp only [i64_w, i32_w]; rw [c5b0]) | skip)
        have H' := Aside0.mk H
        clear H
        go_wp2
        repeat (go_quiet (fail); try go_wp2)
        go_meet
        case rel => exact ⟨_, (true), (by first | rfl | (simp; done) | (simp [*]; done)), H', ⟨by first | omega | exact Nat.le_refl _⟩, ⟨by repeat (first | (with_reducible first | exact HB.out | apply below_alloc | apply Go.Proofs.Ytiledebjfflmmaa.Ext.below_bytes | apply pw_below_drewN | apply below_drew1) | exact HB.out)⟩⟩
      · rw [if_neg c5] at H
        have c5b0 : decide (100 < (l0.length : Int)) = false := decide_eq_false c5
        have c5b1 : decide (100 < l0.length) = false := decide_eq_false (by omega)
        clear c5
        (first | rw [c5b0] | (simp only [i64_w, i32_w]; rw [c5b0]) | skip)
        by_cases c6 : a1 < 1
        · rw [if_pos c6] at H
          have c6b0 : decide (a1 < 1) = true := decide_eq_true c6
          clear c6
          have H' := Aside0.mk H
          clear H
          go_wp2
          repeat (go_quiet (fail); try go_wp2)
          go_meet
          case rel => exact ⟨_, (true), (by first | rfl | (simp; done) | (simp [*]; done)), H', ⟨by first | omega | exact Nat.le_refl _⟩, ⟨by repeat (first | (with_reducible first | exact HB.out | apply below_alloc | apply Go.Proofs.Ytiledebjfflmmaa.Ext.below_bytes | apply pw_below_drewN | apply below_drew1) | exact HB.out)⟩⟩
        · rw [if_neg c6] at H
          have c6b0 : decide (a1 < 1) = false := decide_eq_false c6
          clear c6
          have H' := Aside0.mk H
          clear H
          go_wp2
          repeat (go_quiet (fail); try go_wp2)
          go_meet
          case rel => exact ⟨_, (decide (a1 > 200)), (by first | rfl | (simp; done) | (simp [*]; done)), H', ⟨by first | omega | exact Nat.le_refl _⟩, ⟨by repeat (first | (with_reducible first | exact HB.out | apply below_alloc | apply Go.Proofs.Ytiledebjfflmmaa.Ext.below_bytes | apply pw_below_drewN | apply below_drew1) | exact HB.out)⟩⟩
    case rest =>
      clear HC4
      try clear p2
      try clear c3
      try clear c3b0
      try clear c3b1
      try clear c4
      try clear c5
      try clear c5b0
      try clear c5b1
      try clear c6
      try clear c6b0
      obtain ⟨kq, x21_3, rfl, HA, HJ3, HB⟩ := hcut
      cases kq with
      | zero => exact absurd HA.out (by simp [laws_FnParamsRange.j0])
      | succ kj3 =>
        have H := HA.out
        clear HA
        simp only [laws_FnParamsRange.j0] at H
        by_cases c7 : x21_3 = true
        · subst c7
          have H1 : (some true) = some r := by rw [if_pos rfl] at H; exact H
          clear H
          have H := H1
          clear H1
          obtain rfl := Option.some.inj H
          go_wp2
          repeat (go_quiet (fail); try go_wp2)
          go_ret
          exact ⟨by first | rfl | (simp [errW_none, errW_some] <;> rfl) | (simp [*, errW_none, errW_some] <;> rfl), by repeat (first | (with_reducible first | exact HB.out | apply below_alloc | apply Go.Proofs.Ytiledebjfflmmaa.Ext.below_bytes | apply pw_below_drewN | apply below_drew1) | exact HB.out)⟩
        · replace c7 := Bool.eq_false_iff.mpr c7
          subst c7
          have H1 : (if ([] : List Int).length + l0.length < 17592186044416 then ((impl_RangeOf.f (([] : List Int) ++ l0) a1).bind fun t123 => (if (t123.length : Int) = (mn a1 (l0.length : Int)) then ((laws_packAwake.f).bind fun t126 => (if t126 = true then (laws_FnParamsRange.l0 kj3 l0 t123 (t123.length : Int) 0) else (none))) else (none))) else (none)) = some r := by rw [if_neg (show ¬ (false = true) by decide)] at H; exact H
          clear H
          have H := H1
          clear H1
          by_cases c8 : ([] : List Int).length + l0.length < 17592186044416
          · rw [if_pos c8] at H
            have LMc8 := Aside0.mk c8
            clear c8
            obtain ⟨y120, hy120⟩ : ∃ y_ : List Int, y_ = (([] : List Int) ++ l0) := ⟨_, rfl⟩
            replace H : ((impl_RangeOf.f y120 a1).bind fun t123 => (if (t123.length : Int) = (mn a1 (l0.length : Int)) then ((laws_packAwake.f).bind fun t126 => (if t126 = true then (laws_FnParamsRange.l0 kj3 l0 t123 (t123.length : Int) 0) else (none))) else (none))) = some r := by first | (rw [hy120]; with_reducible exact H) | (have H2_ := (Option.bind_some _ _).symm.trans H; rw [hy120]; with_reducible exact H2_) | (have H2_ := (Option.bind_some _ _).symm.trans H; with_reducible exact H2_) | with_reducible exact H | (rw [hy120]; exact H) | exact H
            have Ny120 := Aside0.mk hy120
            clear hy120
            replace H := Option.bind_eq_some_iff.mp H
            obtain ⟨t123, A90, H⟩ := H
            replace H : (if (t123.length : Int) = (mn a1 (l0.length : Int)) then ((laws_packAwake.f).bind fun t126 => (if t126 = true then (laws_FnParamsRange.l0 kj3 l0 t123 (t123.length : Int) 0) else (none))) else (none)) = some r := H
            have A9 := Aside0.mk A90
            clear A90
            obtain ⟨ji10, hji10⟩ : ∃ j_ : Int, (mn a1 (l0.length : Int)) = j_ := ⟨_, rfl⟩
            replace H : (if (t123.length : Int) = (ji10) then ((laws_packAwake.f).bind fun t126 => (if t126 = true then (laws_FnParamsRange.l0 kj3 l0 t123 (t123.length : Int) 0) else (none))) else (none)) = some r := by first | (rw [hji10] at H; exact H) | (simp only [hji10] at H ⊢; exact H)
            (try rw [hji10] at A9)
            have hji10_ : (if (l0.length : Int) < a1 then (l0.length : Int) else a1) = ji10 := hji10
            by_cases c11 : (t123.length : Int) = (ji10)
            · rw [if_pos c11] at H
              have c11b0 : ((t123.length : Int) == (ji10)) = true := beq_iff_eq.mpr c11
              have c11b1 : ((t123.length : Int) != (ji10)) = false := bne_eq_false_iff_eq.mpr c11
              clear c11
              replace H := Option.bind_eq_some_iff.mp H
              obtain ⟨t126, A120, H⟩ := H
              replace H : (if t126 = true then (laws_FnParamsRange.l0 kj3 l0 t123 (t123.length : Int) 0) else (none)) = some r := H
              have A12 := Aside0.mk A120
              clear A120
              by_cases c13 : t126 = true
              · subst c13
                have H1 : (laws_FnParamsRange.l0 kj3 l0 t123 (t123.length : Int) 0) = some r := by rw [if_pos rfl] at H; exact H
                clear H
                have H := H1
                clear H1
                have H' := Aside0.mk H
                clear H
                go_wp2_with (first | ((with_reducible refine gate_builtin (b := .append) (xs := #[.const (.slice none 0 0), .tmp 22]) rfl ?_); at_builtin; refine Kd.R_append_rows (Kd.int .i64) (w0 := w) w.heap.size rfl (.const (.slice none 0 0)) (.tmp 22) 22 2 (.int .i64 0) 8 rfl Try.underlying22 info2 rfl (by decide) (by omega) (.slice none 0 0) ([] : List Int) l0 _ _ _ (fun _ => True) (fun _ => False) rfl rfl ?aO ?aR (fun _ _ h => h) (fun _ h => h.elim) ?aF ?aB ?aS ?aL ?_; (case aR => repeat (first | exact (Kd.C_below HR0.out HB.out) | (with_reducible refine Kd.C_alloc ?_ _) | (with_reducible refine Kd.C_drewN ?_ _) | (with_reducible refine Kd.C_drew ?_))); (case aB => exact (by repeat (first | (with_reducible first | exact HB.out | apply below_alloc | apply Go.Proofs.Ytiledebjfflmmaa.Ext.below_bytes | apply pw_below_drewN | apply below_drew1) | exact HB.out))); (case aF => exact (fun _ _ => trivial)); (case aO => exact ((Kd.R_nil _ _ _ _ (fun _ => True)))); (case aS => exact (below_size (by repeat (first | (with_reducible first | exact HB.out | apply below_alloc | apply Go.Proofs.Ytiledebjfflmmaa.Ext.below_bytes | apply pw_below_drewN | apply below_drew1) | exact HB.out)))); (case aL => have := LMc8.out; omega); intro v121 w14 ho hb hg hat; rw [← Ny120.out] at ho; have n0_ := Aside0.mk (hb); have n1_ := Aside0.mk (ho); clear HB; have HB := n0_; have HO122 := n1_; clear n0_ n1_; clear ho hb hg hat; obtain ⟨Ao15, co15, eo15⟩ := Kd.R_slice HO122.out; subst eo15) | (go_at_call 9; (with_reducible refine (impl_RangeOf.calls _ _ y120 a1 t123 _ ?side1 ?side2 A9.out).mono ?_); (case side1 => repeat (first | exact (Kd.R_reads' HO122.out).2.2 | (with_reducible refine Kd.C_alloc ?_ _) | (with_reducible refine Kd.C_drewN ?_ _) | (with_reducible refine Kd.C_drew ?_))); (case side2 => exact (Kd.R_reads' HO122.out).2.1); rintro e w16 ⟨v124, rfl, ho0, hb⟩; have n0_ := Aside0.mk (Kd.R_below (by (with_reducible repeat (first | apply Kd.R_alloc | apply Go.Proofs.Ytiledebjfflmmaa.Ext.R_bytes | apply Kd.R_drewN | apply Kd.R_drew)); exact HO122.out) hb); have n1_ := Aside0.mk (Kd.R_lower ho0 (below_size (by repeat (first | (with_reducible first | exact HB.out | apply below_alloc | apply Go.Proofs.Ytiledebjfflmmaa.Ext.below_bytes | apply pw_below_drewN | apply below_drew1) | exact HB.out)))); have n2_ := Aside0.mk (below_step (by repeat (first | (with_reducible first | exact HB.out | apply below_alloc | apply Go.Proofs.Ytiledebjfflmmaa.Ext.below_bytes | apply pw_below_drewN | apply below_drew1) | exact HB.out)) hb); clear HO122; clear HB; have HO122 := n0_; have HO125 := n1_; have HB := n2_; clear n0_ n1_ n2_; (try clear hb); (try clear hb2); (try clear hk); (try clear hi); (try clear ho0); obtain ⟨Ao17, co17, eo17⟩ := Kd.R_slice HO125.out; subst eo17) | (go_at_call 6; (with_reducible refine (laws_packAwake.calls  true _ A12.out).mono ?_); rintro e w' ⟨rfl, ⟨nd, rfl⟩⟩; (try first | exact ⟨rfl, _, World.drewN_drewN _ _ _⟩ | exact ⟨rfl, _, Eq.trans (World.drewN_drewN _ _ _) (congrArg (World.drewN _) (Nat.add_assoc _ _ _))⟩)))
                repeat (go_quiet (first | ((with_reducible refine gate_builtin (b := .append) (xs := #[.const (.slice none 0 0), .tmp 22]) rfl ?_); at_builtin; refine Kd.R_append_rows (Kd.int .i64) (w0 := w) w.heap.size rfl (.const (.slice none 0 0)) (.tmp 22) 22 2 (.int .i64 0) 8 rfl Try.underlying22 info2 rfl (by decide) (by omega) (.slice none 0 0) ([] : List Int) l0 _ _ _ (fun _ => True) (fun _ => False) rfl rfl ?aO ?aR (fun _ _ h => h) (fun _ h => h.elim) ?aF ?aB ?aS ?aL ?_; (case aR => repeat (first | exact (Kd.C_below HR0.out HB.out) | (with_reducible refine Kd.C_alloc ?_ _) | (with_reducible refine Kd.C_drewN ?_ _) | (with_reducible refine Kd.C_drew ?_))); (case aB => exact (by repeat (first | (with_reducible first | exact HB.out | apply below_alloc | apply Go.Proofs.Ytiledebjfflmmaa.Ext.below_bytes | apply pw_below_drewN | apply below_drew1) | exact HB.out))); (case aF => exact (fun _ _ => trivial)); (case aO => exact ((Kd.R_nil _ _ _ _ (fun _ => True)))); (case aS => exact (below_size (by repeat (first | (with_reducible first | exact HB.out | apply below_alloc | apply Go.Proofs.Ytiledebjfflmmaa.Ext.below_bytes | apply pw_below_drewN | apply below_drew1) | exact HB.out)))); (case aL => have := LMc8.out; omega); intro v121 w14 ho hb hg hat; rw [← Ny120.out] at ho; have n0_ := Aside0.mk (hb); have n1_ := Aside0.mk (ho); clear HB; have HB := n0_; have HO122 := n1_; clear n0_ n1_; clear ho hb hg hat; obtain ⟨Ao15, co15, eo15⟩ := Kd.R_slice HO122.out; subst eo15) | (go_at_call 9; (with_reducible refine (impl_RangeOf.calls _ _ y120 a1 t123 _ ?side1 ?side2 A9.out).mono ?_); (case side1 => repeat (first | exact (Kd.R_reads' HO122.out).2.2 | (with_reducible refine Kd.C_alloc ?_ _) | (with_reducible refine Kd.C_drewN ?_ _) | (with_reducible refine Kd.C_drew ?_))); (case side2 => exact (Kd.R_reads' HO122.out).2.1); rintro e w16 ⟨v124, rfl, ho0, hb⟩; have n0_ := Aside0.mk (Kd.R_below (by (with_reducible repeat (first | apply Kd.R_alloc | apply Go.Proofs.Ytiledebjfflmmaa.Ext.R_bytes | apply Kd.R_drewN | apply Kd.R_drew)); exact HO122.out) hb); have n1_ := Aside0.mk (Kd.R_lower ho0 (below_size (by repeat (first | (with_reducible first | exact HB.out | apply below_alloc | apply Go.Proofs.Ytiledebjfflmmaa.Ext.below_bytes | apply pw_below_drewN | apply below_drew1) | exact HB.out)))); have n2_ := Aside0.mk (below_step (by repeat (first | (with_reducible first | exact HB.out | apply below_alloc | apply Go.Proofs.Ytiledebjfflmmaa.Ext.below_bytes | apply pw_below_drewN | apply below_drew1) | exact HB.out)) hb); clear HO122; clear HB; have HO122 := n0_; have HO125 := n1_; have HB := n2_; clear n0_ n1_ n2_; (try clear hb); (try clear hb2); (try clear hk); (try clear hi); (try clear ho0); obtain ⟨Ao17, co17, eo17⟩ := Kd.R_slice HO125.out; subst eo17) | (go_at_call 6; (with_reducible refine (laws_packAwake.calls  true _ A12.out).mono ?_); rintro e w' ⟨rfl, ⟨nd, rfl⟩⟩; (try first | exact ⟨rfl, _, World.drewN_drewN _ _ _⟩ | exact ⟨rfl, _, Eq.trans (World.drewN_drewN _ _ _) (congrArg (World.drewN _) (Nat.add_assoc _ _ _))⟩))); try go_wp2_with (first | ((with_reducible refine gate_builtin (b := .append) (xs := #[.const (.slice none 0 0), .tmp 22]) rfl ?_); at_builtin; refine Kd.R_append_rows (Kd.int .i64) (w0 := w) w.heap.size rfl (.const (.slice none 0 0)) (.tmp 22) 22 2 (.int .i64 0) 8 rfl Try.underlying22 info2 rfl (by decide) (by omega) (.slice none 0 0) ([] : List Int) l0 _ _ _ (fun _ => True) (fun _ => False) rfl rfl ?aO ?aR (fun _ _ h => h) (fun _ h => h.elim) ?aF ?aB ?aS ?aL ?_; (case aR => repeat (first | exact (Kd.C_below HR0.out HB.out) | (with_reducible refine Kd.C_alloc ?_ _) | (with_reducible refine Kd.C_drewN ?_ _) | (with_reducible refine Kd.C_drew ?_))); (case aB => exact (by repeat (first | (with_reducible first | exact HB.out | apply below_alloc | apply Go.Proofs.Ytiledebjfflmmaa.Ext.below_bytes | apply pw_below_drewN | apply below_drew1) | exact HB.out))); (case aF => exact (fun _ _ => trivial)); (case aO => exact ((Kd.R_nil _ _ _ _ (fun _ => True)))); (case aS => exact (below_size (by repeat (first | (with_reducible first | exact HB.out | apply below_alloc | apply Go.Proofs.Ytiledebjfflmmaa.Ext.below_bytes | apply pw_below_drewN | apply below_drew1) | exact HB.out)))); (case aL => have := LMc8.out; omega); intro v121 w14 ho hb hg hat; rw [← Ny120.out] at ho; have n0_ := Aside0.mk (hb); have n1_ := Aside0.mk (ho); clear HB; have HB := n0_; have HO122 := n1_; clear n0_ n1_; clear ho hb hg hat; obtain ⟨Ao15, co15, eo15⟩ := Kd.R_slice HO122.out; subst eo15) | (go_at_call 9; (with_reducible refine (impl_RangeOf.calls _ _ y120 a1 t123 _ ?side1 ?side2 A9.out).mono ?_); (case side1 => repeat (first | exact (Kd.R_reads' HO122.out).2.2 | (with_reducible refine Kd.C_alloc ?_ _) | (with_reducible refine Kd.C_drewN ?_ _) | (with_reducible refine Kd.C_drew ?_))); (case side2 => exact (Kd.R_reads' HO122.out).2.1); rintro e w16 ⟨v124, rfl, ho0, hb⟩; have n0_ := Aside0.mk (Kd.R_below (by (with_reducible repeat (first | apply Kd.R_alloc | apply Go.Proofs.Ytiledebjfflmmaa.Ext.R_bytes | apply Kd.R_drewN | apply Kd.R_drew)); exact HO122.out) hb); have n1_ := Aside0.mk (Kd.R_lower ho0 (below_size (by repeat (first | (with_reducible first | exact HB.out | apply below_alloc | apply Go.Proofs.Ytiledebjfflmmaa.Ext.below_bytes | apply pw_below_drewN | apply below_drew1) | exact HB.out)))); have n2_ := Aside0.mk (below_step (by repeat (first | (with_reducible first | exact HB.out | apply below_alloc | apply Go.Proofs.Ytiledebjfflmmaa.Ext.below_bytes | apply pw_below_drewN | apply below_drew1) | exact HB.out)) hb); clear HO122; clear HB; have HO122 := n0_; have HO125 := n1_; have HB := n2_; clear n0_ n1_ n2_; (try clear hb); (try clear hb2); (try clear hk); (try clear hi); (try clear ho0); obtain ⟨Ao17, co17, eo17⟩ := Kd.R_slice HO125.out; subst eo17) | (go_at_call 6; (with_reducible refine (laws_packAwake.calls  true _ A12.out).mono ?_); rintro e w' ⟨rfl, ⟨nd, rfl⟩⟩; (try first | exact ⟨rfl, _, World.drewN_drewN _ _ _⟩ | exact ⟨rfl, _, Eq.trans (World.drewN_drewN _ _ _) (congrArg (World.drewN _) (Nat.add_assoc _ _ _))⟩))))
                go_loopg [39] kj3 (fun kq v39 w' => ∃ (x39_2 : Int), v39 = .int .i64 x39_2 ∧ Aside0 (laws_FnParamsRange.l0 kq l0 t123 (t123.length : Int) x39_2 = some r) ∧ Aside0 (kq ≤ kj3) ∧ Aside0 (Kd.R k27 27 w' w.heap.size (fun _ => True) (.slice Ao17 t123.length co17) t123) ∧ Aside0 (Below w.heap.size w w'))
                case atStart => exact ⟨(0), (by first | rfl | (simp; done) | (simp [*]; done)), H', ⟨Nat.le_refl _⟩, ⟨by (with_reducible repeat (first | apply Kd.R_alloc | apply Go.Proofs.Ytiledebjfflmmaa.Ext.R_bytes | apply Kd.R_drewN | apply Kd.R_drew)); exact HO125.out⟩, ⟨by repeat (first | (with_reducible first | exact HB.out | apply below_alloc | apply Go.Proofs.Ytiledebjfflmmaa.Ext.below_bytes | apply pw_below_drewN | apply below_drew1) | exact HB.out)⟩⟩
                case round =>
                  clear H'
                  try clear c1
                  try clear p2
                  try clear c3
                  try clear c3b0
                  try clear c3b1
                  try clear c4
                  try clear c5
                  try clear c5b0
                  try clear c5b1
                  try clear c6
                  try clear c6b0
                  try clear c7
                  try clear c8
                  try clear c11
                  try clear c11b0
                  try clear c11b1
                  try clear c13
                  try clear p2
                  obtain ⟨x39_2, rfl, HA, HK2, HO_37, HB⟩ := hrel
                  cases gk with
                  | zero => exact absurd HA.out (by simp [laws_FnParamsRange.l0])
                  | succ k2 =>
                    have H := HA.out
                    clear HA
                    simp only [laws_FnParamsRange.l0] at H
                    by_cases c18 : x39_2 < (t123.length : Int)
                    · rw [if_pos c18] at H
                      have c18b0 : decide (x39_2 < (t123.length : Int)) = true := decide_eq_true c18
                      clear c18
                      by_cases c19 : 0 ≤ x39_2
                      · rw [if_pos c19] at H
                        have c19b0 : decide (0 ≤ x39_2) = true := decide_eq_true c19
                        clear c19
                        by_cases c20 : x39_2 < (t123.length : Int)
                        · rw [if_pos c20] at H
                          have c20b0 : decide (x39_2 < (t123.length : Int)) = true := decide_eq_true c20
                          clear c20
                          by_cases c21 : ((rd_T27 t123 x39_2).f0) = x39_2
                          · rw [if_pos c21] at H
                            have c21b0 : (((rd_T27 t123 x39_2).f0) == x39_2) = true := beq_iff_eq.mpr c21
                            have c21b1 : (((rd_T27 t123 x39_2).f0) != x39_2) = false := bne_eq_false_iff_eq.mpr c21
                            clear c21
                            replace H := Option.bind_eq_some_iff.mp H
                            obtain ⟨t129, A220, H⟩ := H
                            replace H : (if ((rd_T27 t123 x39_2).f1) = t129 then (if x39_2 < (l0.length : Int) then ((spec_More.f (rd l0 x39_2)).bind fun t131 => (if (((rd_T27 t123 x39_2).f2) != t131) = true then (none) else (laws_FnParamsRange.l0 k2 l0 t123 (t123.length : Int) (wrap64 (x39_2 + 1))))) else (none)) else (none)) = some r := H
                            have A22 := Aside0.mk A220
                            clear A220
                            by_cases c23 : ((rd_T27 t123 x39_2).f1) = t129
                            · rw [if_pos c23] at H
                              have c23b0 : (((rd_T27 t123 x39_2).f1) == t129) = true := beq_iff_eq.mpr c23
                              have c23b1 : (((rd_T27 t123 x39_2).f1) != t129) = false := bne_eq_false_iff_eq.mpr c23
                              clear c23
                              by_cases c24 : x39_2 < (l0.length : Int)
                              · rw [if_pos c24] at H
                                have c24b0 : decide (x39_2 < (l0.length : Int)) = true := decide_eq_true c24
                                clear c24
                                replace H := Option.bind_eq_some_iff.mp H
                                obtain ⟨t131, A250, H⟩ := H
                                replace H : (if (((rd_T27 t123 x39_2).f2) != t131) = true then (none) else (laws_FnParamsRange.l0 k2 l0 t123 (t123.length : Int) (wrap64 (x39_2 + 1)))) = some r := H
                                have A25 := Aside0.mk A250
                                clear A250
                                by_cases c26 : (((rd_T27 t123 x39_2).f2) != t131) = true
                                · rw [if_pos c26] at H
                                  exact absurd H (by simp)
                                · rw [if_neg c26] at H
                                  have c26b0 : (((rd_T27 t123 x39_2).f2) != t131) = false := by simpa using c26
                                  (try (have c26b1 : decide (((rd_T27 t123 x39_2).f2) = t131) = true := by simpa using c26))
                                  (try (have c26b2 : (((rd_T27 t123 x39_2).f2) == t131) = true := by simpa using c26))
                                  clear c26
                                  have H' := Aside0.mk H
                                  clear H
                                  have p127 : 0 ≤ (x39_2 : Int) := of_decide_eq_true (by first | (with_reducible assumption) | assumption)
                                  have q127 : x39_2 < (t123.length : Int) := of_decide_eq_true (by first | (with_reducible assumption) | assumption)
                                  obtain ⟨ad127, e127, hx127_0, hx127_1, hx127_2⟩ := at_T27 (Kd.R_reads' HO_37.out).2.2 x39_2 p127 q127
                                  cases e127
                                  replace p127 := eq_true p127
                                  replace q127 := eq_true q127
                                  go_wp2_with (first | ((with_reducible refine gate_dst (N := 7) rfl ?_); refine box_event ?hg (N := 7) ?hd (cs := #[.int .i64 0, .int .i64 0, .bool false]) (t := 27) ?hr ?_; (case hd => rfl); (case hg => rfl); (case hr => first | (go_simp; done) | (go_simp; rfl)); intro gb128 hg w27 hbox hb; have n0_ := Aside0.mk (Kd.R_below (Kd.R_elderB (by (with_reducible repeat (first | apply Kd.R_alloc | apply Go.Proofs.Ytiledebjfflmmaa.Ext.R_bytes | apply Kd.R_drewN | apply Kd.R_drew)); exact HO_37.out) gb128 (Nat.le_of_eq hg.symm)) hb); have n1_ := Aside0.mk (below_step (by repeat (first | (with_reducible first | exact HB.out | apply below_alloc | apply Go.Proofs.Ytiledebjfflmmaa.Ext.below_bytes | apply pw_below_drewN | apply below_drew1) | exact HB.out)) hb); have n2_ := Aside0.mk (hbox); have n3_ := Aside0.mk ((by rw [hg]; exact (below_size (by repeat (first | (with_reducible first | exact HB.out | apply below_alloc | apply Go.Proofs.Ytiledebjfflmmaa.Ext.below_bytes | apply pw_below_drewN | apply below_drew1) | exact HB.out))) : w.heap.size ≤ gb128)); have n4_ := Aside0.mk ((by rw [hg]; exact (below_size (by repeat (first | (with_reducible first | exact HB.out | apply below_alloc | apply Go.Proofs.Ytiledebjfflmmaa.Ext.below_bytes | apply pw_below_drewN | apply below_drew1) | exact HB.out))) : w.heap.size ≤ gb128)); clear HO_37; clear HB; have HO_37 := n0_; have HB := n1_; have BK128 := n2_; have GW128 := n3_; have GE128 := n4_; clear n0_ n1_ n2_ n3_ n4_; clear hb hbox hg; have hcz28_0 : w27.cell? ⟨gb128, 0, none⟩ = some (.int .i64 0) := (blk_cell BK128.out 0).trans rfl; have hcz28_1 : w27.cell? ⟨gb128, 1, none⟩ = some (.int .i64 0) := (blk_cell BK128.out 1).trans rfl; have hcz28_2 : w27.cell? ⟨gb128, 2, none⟩ = some (.bool false) := (blk_cell BK128.out 2).trans rfl; have hfz28_0 := blk_frozen BK128.out 0; have hfz28_1 := blk_frozen BK128.out 1; have hfz28_2 := blk_frozen BK128.out 2) | (go_at_call 10; (with_reducible refine (spec_PlainAt.calls _ _ l0 x39_2 t129 _ ?side1 ?side2 A22.out).mono ?_); (case side1 => exact Kd.C_below HR0.out (by repeat (first | (with_reducible first | exact HB.out | apply below_alloc | apply Go.Proofs.Ytiledebjfflmmaa.Ext.below_bytes | apply pw_below_drewN | apply below_drew1 | refine below_set ?_ GE128.out) | exact HB.out))); (case side2 => exact HC0.out); rintro e w' ⟨rfl, ⟨nd, rfl⟩⟩; (try first | exact ⟨rfl, _, World.drewN_drewN _ _ _⟩ | exact ⟨rfl, _, Eq.trans (World.drewN_drewN _ _ _) (congrArg (World.drewN _) (Nat.add_assoc _ _ _))⟩); have p130 : 0 ≤ (x39_2 : Int) := of_decide_eq_true (by first | (with_reducible assumption) | assumption); have q130 : x39_2 < (l0.length : Int) := of_decide_eq_true (by first | (with_reducible assumption) | assumption); obtain ⟨ad130, e130, hx130_0⟩ := Kd.at_int HR0.out x39_2 p130 q130; cases e130; have hn130_0 : ad130.block ≠ gb128 := Nat.ne_of_lt (Nat.lt_of_lt_of_le (by have := World.block_lt_of_cell? _ _ hx130_0; first | rwa [add_block] at this | exact this) GW128.out); have hn130_1 : ad130.block ≠ gb128 := Nat.ne_of_lt (Nat.lt_of_lt_of_le (by have := World.block_lt_of_cell? _ _ hx130_0; first | rwa [add_block] at this | exact this) GW128.out); have hn130_2 : ad130.block ≠ gb128 := Nat.ne_of_lt (Nat.lt_of_lt_of_le (by have := World.block_lt_of_cell? _ _ hx130_0; first | rwa [add_block] at this | exact this) GW128.out); replace hx130_0 := (HB.out.cell (World.block_lt_of_cell? w _ hx130_0)).trans hx130_0; replace hx130_0 := (cell_far (p := ⟨gb128, 0, none⟩) (by first | (rw [add_block]; exact hn130_0) | (show (Addr.add _ _).block ≠ _; rw [add_block]; exact hn130_0) | exact hn130_0) (.int .i64 ((rd_T27 t123 x39_2).f0))).trans hx130_0; replace hx130_0 := (cell_far (p := ⟨gb128, 1, none⟩) (by first | (rw [add_block]; exact hn130_1) | (show (Addr.add _ _).block ≠ _; rw [add_block]; exact hn130_1) | exact hn130_1) (.int .i64 ((rd_T27 t123 x39_2).f1))).trans hx130_0; replace hx130_0 := (cell_far (p := ⟨gb128, 2, none⟩) (by first | (rw [add_block]; exact hn130_2) | (show (Addr.add _ _).block ≠ _; rw [add_block]; exact hn130_2) | exact hn130_2) (.bool ((rd_T27 t123 x39_2).f2))).trans hx130_0; (try have hy130_0 := fun (n_ : Nat) => (show (((((w27.drewN n_).setCell ⟨gb128, 0, none⟩ (.int .i64 ((rd_T27 t123 x39_2).f0))).setCell ⟨gb128, 1, none⟩ (.int .i64 ((rd_T27 t123 x39_2).f1))).setCell ⟨gb128, 2, none⟩ (.bool ((rd_T27 t123 x39_2).f2)))).cell? _ = some _ from hx130_0)); clear hn130_0; clear hn130_1; clear hn130_2; replace p130 := eq_true p130; replace q130 := eq_true q130) | (go_at_call 8; (with_reducible refine (spec_More.calls (rd l0 x39_2) t131 _ A25.out).mono ?_); rintro e w' ⟨rfl, ⟨nd, rfl⟩⟩; (try first | exact ⟨rfl, _, World.drewN_drewN _ _ _⟩ | exact ⟨rfl, _, Eq.trans (World.drewN_drewN _ _ _) (congrArg (World.drewN _) (Nat.add_assoc _ _ _))⟩)))
                                  repeat (go_quiet (first | ((with_reducible refine gate_dst (N := 7) rfl ?_); refine box_event ?hg (N := 7) ?hd (cs := #[.int .i64 0, .int .i64 0, .bool false]) (t := 27) ?hr ?_; (case hd => rfl); (case hg => rfl); (case hr => first | (go_simp; done) | (go_simp; rfl)); intro gb128 hg w27 hbox hb; have n0_ := Aside0.mk (Kd.R_below (Kd.R_elderB (by (with_reducible repeat (first | apply Kd.R_alloc | apply Go.Proofs.Ytiledebjfflmmaa.Ext.R_bytes | apply Kd.R_drewN | apply Kd.R_drew)); exact HO_37.out) gb128 (Nat.le_of_eq hg.symm)) hb); have n1_ := Aside0.mk (below_step (by repeat (first | (with_reducible first | exact HB.out | apply below_alloc | apply Go.Proofs.Ytiledebjfflmmaa.Ext.below_bytes | apply pw_below_drewN | apply below_drew1) | exact HB.out)) hb); have n2_ := Aside0.mk (hbox); have n3_ := Aside0.mk ((by rw [hg]; exact (below_size (by repeat (first | (with_reducible first | exact HB.out | apply below_alloc | apply Go.Proofs.Ytiledebjfflmmaa.Ext.below_bytes | apply pw_below_drewN | apply below_drew1) | exact HB.out))) : w.heap.size ≤ gb128)); have n4_ := Aside0.mk ((by rw [hg]; exact (below_size (by repeat (first | (with_reducible first | exact HB.out | apply below_alloc | apply Go.Proofs.Ytiledebjfflmmaa.Ext.below_bytes | apply pw_below_drewN | apply below_drew1) | exact HB.out))) : w.heap.size ≤ gb128)); clear HO_37; clear HB; have HO_37 := n0_; have HB := n1_; have BK128 := n2_; have GW128 := n3_; have GE128 := n4_; clear n0_ n1_ n2_ n3_ n4_; clear hb hbox hg; have hcz28_0 : w27.cell? ⟨gb128, 0, none⟩ = some (.int .i64 0) := (blk_cell BK128.out 0).trans rfl; have hcz28_1 : w27.cell? ⟨gb128, 1, none⟩ = some (.int .i64 0) := (blk_cell BK128.out 1).trans rfl; have hcz28_2 : w27.cell? ⟨gb128, 2, none⟩ = some (.bool false) := (blk_cell BK128.out 2).trans rfl; have hfz28_0 := blk_frozen BK128.out 0; have hfz28_1 := blk_frozen BK128.out 1; have hfz28_2 := blk_frozen BK128.out 2) | (go_at_call 10; (with_reducible refine (spec_PlainAt.calls _ _ l0 x39_2 t129 _ ?side1 ?side2 A22.out).mono ?_); (case side1 => exact Kd.C_below HR0.out (by repeat (first | (with_reducible first | exact HB.out | apply below_alloc | apply Go.Proofs.Ytiledebjfflmmaa.Ext.below_bytes | apply pw_below_drewN | apply below_drew1 | refine below_set ?_ GE128.out) | exact HB.out))); (case side2 => exact HC0.out); rintro e w' ⟨rfl, ⟨nd, rfl⟩⟩; (try first | exact ⟨rfl, _, World.drewN_drewN _ _ _⟩ | exact ⟨rfl, _, Eq.trans (World.drewN_drewN _ _ _) (congrArg (World.drewN _) (Nat.add_assoc _ _ _))⟩); have p130 : 0 ≤ (x39_2 : Int) := of_decide_eq_true (by first | (with_reducible assumption) | assumption); have q130 : x39_2 < (l0.length : Int) := of_decide_eq_true (by first | (with_reducible assumption) | assumption); obtain ⟨ad130, e130, hx130_0⟩ := Kd.at_int HR0.out x39_2 p130 q130; cases e130; have hn130_0 : ad130.block ≠ gb128 := Nat.ne_of_lt (Nat.lt_of_lt_of_le (by have := World.block_lt_of_cell? _ _ hx130_0; first | rwa [add_block] at this | exact this) GW128.out); have hn130_1 : ad130.block ≠ gb128 := Nat.ne_of_lt (Nat.lt_of_lt_of_le (by have := World.block_lt_of_cell? _ _ hx130_0; first | rwa [add_block] at this | exact this) GW128.out); have hn130_2 : ad130.block ≠ gb128 := Nat.ne_of_lt (Nat.lt_of_lt_of_le (by have := World.block_lt_of_cell? _ _ hx130_0; first | rwa [add_block] at this | exact this) GW128.out); replace hx130_0 := (HB.out.cell (World.block_lt_of_cell? w _ hx130_0)).trans hx130_0; replace hx130_0 := (cell_far (p := ⟨gb128, 0, none⟩) (by first | (rw [add_block]; exact hn130_0) | (show (Addr.add _ _).block ≠ _; rw [add_block]; exact hn130_0) | exact hn130_0) (.int .i64 ((rd_T27 t123 x39_2).f0))).trans hx130_0; replace hx130_0 := (cell_far (p := ⟨gb128, 1, none⟩) (by first | (rw [add_block]; exact hn130_1) | (show (Addr.add _ _).block ≠ _; rw [add_block]; exact hn130_1) | exact hn130_1) (.int .i64 ((rd_T27 t123 x39_2).f1))).trans hx130_0; replace hx130_0 := (cell_far (p := ⟨gb128, 2, none⟩) (by first | (rw [add_block]; exact hn130_2) | (show (Addr.add _ _).block ≠ _; rw [add_block]; exact hn130_2) | exact hn130_2) (.bool ((rd_T27 t123 x39_2).f2))).trans hx130_0; (try have hy130_0 := fun (n_ : Nat) => (show (((((w27.drewN n_).setCell ⟨gb128, 0, none⟩ (.int .i64 ((rd_T27 t123 x39_2).f0))).setCell ⟨gb128, 1, none⟩ (.int .i64 ((rd_T27 t123 x39_2).f1))).setCell ⟨gb128, 2, none⟩ (.bool ((rd_T27 t123 x39_2).f2)))).cell? _ = some _ from hx130_0)); clear hn130_0; clear hn130_1; clear hn130_2; replace p130 := eq_true p130; replace q130 := eq_true q130) | (go_at_call 8; (with_reducible refine (spec_More.calls (rd l0 x39_2) t131 _ A25.out).mono ?_); rintro e w' ⟨rfl, ⟨nd, rfl⟩⟩; (try first | exact ⟨rfl, _, World.drewN_drewN _ _ _⟩ | exact ⟨rfl, _, Eq.trans (World.drewN_drewN _ _ _) (congrArg (World.drewN _) (Nat.add_assoc _ _ _))⟩))); try go_wp2_with (first | ((with_reducible refine gate_dst (N := 7) rfl ?_); refine box_event ?hg (N := 7) ?hd (cs := #[.int .i64 0, .int .i64 0, .bool false]) (t := 27) ?hr ?_; (case hd => rfl); (case hg => rfl); (case hr => first | (go_simp; done) | (go_simp; rfl)); intro gb128 hg w27 hbox hb; have n0_ := Aside0.mk (Kd.R_below (Kd.R_elderB (by (with_reducible repeat (first | apply Kd.R_alloc | apply Go.Proofs.Ytiledebjfflmmaa.Ext.R_bytes | apply Kd.R_drewN | apply Kd.R_drew)); exact HO_37.out) gb128 (Nat.le_of_eq hg.symm)) hb); have n1_ := Aside0.mk (below_step (by repeat (first | (with_reducible first | exact HB.out | apply below_alloc | apply Go.Proofs.Ytiledebjfflmmaa.Ext.below_bytes | apply pw_below_drewN | apply below_drew1) | exact HB.out)) hb); have n2_ := Aside0.mk (hbox); have n3_ := Aside0.mk ((by rw [hg]; exact (below_size (by repeat (first | (with_reducible first | exact HB.out | apply below_alloc | apply Go.Proofs.Ytiledebjfflmmaa.Ext.below_bytes | apply pw_below_drewN | apply below_drew1) | exact HB.out))) : w.heap.size ≤ gb128)); have n4_ := Aside0.mk ((by rw [hg]; exact (below_size (by repeat (first | (with_reducible first | exact HB.out | apply below_alloc | apply Go.Proofs.Ytiledebjfflmmaa.Ext.below_bytes | apply pw_below_drewN | apply below_drew1) | exact HB.out))) : w.heap.size ≤ gb128)); clear HO_37; clear HB; have HO_37 := n0_; have HB := n1_; have BK128 := n2_; have GW128 := n3_; have GE128 := n4_; clear n0_ n1_ n2_ n3_ n4_; clear hb hbox hg; have hcz28_0 : w27.cell? ⟨gb128, 0, none⟩ = some (.int .i64 0) := (blk_cell BK128.out 0).trans rfl; have hcz28_1 : w27.cell? ⟨gb128, 1, none⟩ = some (.int .i64 0) := (blk_cell BK128.out 1).trans rfl; have hcz28_2 : w27.cell? ⟨gb128, 2, none⟩ = some (.bool false) := (blk_cell BK128.out 2).trans rfl; have hfz28_0 := blk_frozen BK128.out 0; have hfz28_1 := blk_frozen BK128.out 1; have hfz28_2 := blk_frozen BK128.out 2) | (go_at_call 10; (with_reducible refine (spec_PlainAt.calls _ _ l0 x39_2 t129 _ ?side1 ?side2 A22.out).mono ?_); (case side1 => exact Kd.C_below HR0.out (by repeat (first | (with_reducible first | exact HB.out | apply below_alloc | apply Go.Proofs.Ytiledebjfflmmaa.Ext.below_bytes | apply pw_below_drewN | apply below_drew1 | refine below_set ?_ GE128.out) | exact HB.out))); (case side2 => exact HC0.out); rintro e w' ⟨rfl, ⟨nd, rfl⟩⟩; (try first | exact ⟨rfl, _, World.drewN_drewN _ _ _⟩ | exact ⟨rfl, _, Eq.trans (World.drewN_drewN _ _ _) (congrArg (World.drewN _) (Nat.add_assoc _ _ _))⟩); have p130 : 0 ≤ (x39_2 : Int) := of_decide_eq_true (by first | (with_reducible assumption) | assumption); have q130 : x39_2 < (l0.length : Int) := of_decide_eq_true (by first | (with_reducible assumption) | assumption); obtain ⟨ad130, e130, hx130_0⟩ := Kd.at_int HR0.out x39_2 p130 q130; cases e130; have hn130_0 : ad130.block ≠ gb128 := Nat.ne_of_lt (Nat.lt_of_lt_of_le (by have := World.block_lt_of_cell? _ _ hx130_0; first | rwa [add_block] at this | exact this) GW128.out); have hn130_1 : ad130.block ≠ gb128 := Nat.ne_of_lt (Nat.lt_of_lt_of_le (by have := World.block_lt_of_cell? _ _ hx130_0; first | rwa [add_block] at this | exact this) GW128.out); have hn130_2 : ad130.block ≠ gb128 := Nat.ne_of_lt (Nat.lt_of_lt_of_le (by have := World.block_lt_of_cell? _ _ hx130_0; first | rwa [add_block] at this | exact this) GW128.out); replace hx130_0 := (HB.out.cell (World.block_lt_of_cell? w _ hx130_0)).trans hx130_0; replace hx130_0 := (cell_far (p := ⟨gb128, 0, none⟩) (by first | (rw [add_block]; exact hn130_0) | (show (Addr.add _ _).block ≠ _; rw [add_block]; exact hn130_0) | exact hn130_0) (.int .i64 ((rd_T27 t123 x39_2).f0))).trans hx130_0; replace hx130_0 := (cell_far (p := ⟨gb128, 1, none⟩) (by first | (rw [add_block]; exact hn130_1) | (show (Addr.add _ _).block ≠ _; rw [add_block]; exact hn130_1) | exact hn130_1) (.int .i64 ((rd_T27 t123 x39_2).f1))).trans hx130_0; replace hx130_0 := (cell_far (p := ⟨gb128, 2, none⟩) (by first | (rw [add_block]; exact hn130_2) | (show (Addr.add _ _).block ≠ _; rw [add_block]; exact hn130_2) | exact hn130_2) (.bool ((rd_T27 t123 x39_2).f2))).trans hx130_0; (try have hy130_0 := fun (n_ : Nat) => (show (((((w27.drewN n_).setCell ⟨gb128, 0, none⟩ (.int .i64 ((rd_T27 t123 x39_2).f0))).setCell ⟨gb128, 1, none⟩ (.int .i64 ((rd_T27 t123 x39_2).f1))).setCell ⟨gb128, 2, none⟩ (.bool ((rd_T27 t123 x39_2).f2)))).cell? _ = some _ from hx130_0)); clear hn130_0; clear hn130_1; clear hn130_2; replace p130 := eq_true p130; replace q130 := eq_true q130) | (go_at_call 8; (with_reducible refine (spec_More.calls (rd l0 x39_2) t131 _ A25.out).mono ?_); rintro e w' ⟨rfl, ⟨nd, rfl⟩⟩; (try first | exact ⟨rfl, _, World.drewN_drewN _ _ _⟩ | exact ⟨rfl, _, Eq.trans (World.drewN_drewN _ _ _) (congrArg (World.drewN _) (Nat.add_assoc _ _ _))⟩))))
                                  go_roundg k2
                                  case measure => have := HJ3.out; have := HK2.out; omega
                                  case rel => exact ⟨(wrap64 (x39_2 + 1)), (by first | rfl | (simp; done) | (simp [*]; done)), H', ⟨by have := HJ3.out; have := HK2.out; omega⟩, ⟨by (with_reducible repeat (first | apply Kd.R_alloc | apply Go.Proofs.Ytiledebjfflmmaa.Ext.R_bytes | apply Kd.R_drewN | apply Kd.R_drew)); exact Kd.R_mono (Kd.R_far (p := ⟨gb128, 2, none⟩) (Kd.R_far (p := ⟨gb128, 1, none⟩) (Kd.R_far (p := ⟨gb128, 0, none⟩) (Kd.R_mono HO_37.out (fun k_ hk => (⟨hk, hk.2⟩ : _ ∧ k_ ≠ gb128))) (fun _ hk => hk.2) (.int .i64 ((rd_T27 t123 x39_2).f0))) (fun _ hk => hk.2) (.int .i64 ((rd_T27 t123 x39_2).f1))) (fun _ hk => hk.2) (.bool ((rd_T27 t123 x39_2).f2))) (fun _ hk => trivial)⟩, ⟨by repeat (first | (with_reducible first | exact HB.out | apply below_alloc | apply Go.Proofs.Ytiledebjfflmmaa.Ext.below_bytes | apply pw_below_drewN | apply below_drew1 | refine below_set ?_ GE128.out) | exact HB.out)⟩⟩
                              · rw [if_neg c24] at H
                                exact absurd H (by simp)
                            · rw [if_neg c23] at H
                              exact absurd H (by simp)
                          · rw [if_neg c21] at H
                            exact absurd H (by simp)
                        · rw [if_neg c20] at H
                          exact absurd H (by simp)
                      · rw [if_neg c19] at H
                        exact absurd H (by simp)
                    · rw [if_neg c18] at H
                      have c18b0 : decide (x39_2 < (t123.length : Int)) = false := decide_eq_false c18
                      clear c18
                      obtain rfl := Option.some.inj H
                      go_wp2
                      repeat (go_quiet (fail); try go_wp2)
                      go_ret
                      exact ⟨by first | rfl | (simp [errW_none, errW_some] <;> rfl) | (simp only [← hji10]; first | rfl | (simp [errW_none, errW_some] <;> rfl)) | (simp [*, errW_none, errW_some] <;> rfl), by repeat (first | (with_reducible first | exact HB.out | apply below_alloc | apply Go.Proofs.Ytiledebjfflmmaa.Ext.below_bytes | apply pw_below_drewN | apply below_drew1) | exact HB.out)⟩
              · replace c13 := Bool.eq_false_iff.mpr c13
                subst c13
                have H1 : (none) = some r := by rw [if_neg (show ¬ (false = true) by decide)] at H; exact H
                clear H
                have H := H1
                clear H1
                exact absurd H (by simp)
            · rw [if_neg c11] at H
              exact absurd H (by simp)
          · rw [if_neg c8] at H
            exact absurd H (by simp)

/-- THE ONE PURE STATEMENT of laws_FnParamsRange: yours. -/
def laws_FnParamsRange.Pure : Prop := ∀ (l0 : List Int) (a1 : Int), l0.length ≤ maxLen → l0.length * 8 ≤ 140737488351232 → (∀ x ∈ l0, (Lit.int .i64 x).wf = true) → (Lit.int .i64 a1).wf = true → ∃ k, laws_FnParamsRange.f k l0 a1 = some true
theorem laws_FnParamsRange.walk (P : laws_FnParamsRange.Pure) (a0 : Option Addr) (len0 cap0 : Nat) (z0 : List Int) (a1 : Int) (w : World) (w0 : (a0 = none ∧ len0 = 0 ∧ cap0 = 0 ∧ z0 = []) ∨ ∃ x, a0 = some x ∧ len0 ≤ cap0 ∧ cap0 ≤ maxLen ∧ z0.length = cap0 ∧ (∀ i, i < z0.length → w.cell? (x.add i) = some (.int .i64 (z0.getD i 0))) ∧ ∀ n ∈ z0, (Lit.int .i64 n).wf = true) (y0 : len0 * 8 ≤ 140737488351232) (w1 : (Lit.int .i64 a1).wf = true) :
    Calls Try.prog 4 #[.slice a0 len0 cap0, .int .i64 a1] w fun e w' => e = .returned (.bool true) ∧ Below w.heap.size w w' := by
  obtain ⟨l0, rfl, hr0, hm0, hw0, hc0⟩ := ReadsInt.ofRowC w0
  obtain ⟨k, h⟩ := P l0 a1 hm0 y0 hw0 w1
  refine (laws_FnParamsRange.calls k _ _ l0 a1 true w (Kd.C_of_reads (d := (0 : Int)) (h1 := fun _ => rfl) hr0) hc0 h).mono ?_
  rintro e w' ⟨rfl, hd⟩
  exact ⟨rfl, hd⟩

end Go.Proofs.Ytiledebjfflmmaa.PE
