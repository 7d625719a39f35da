-- PRINTED BY print.sh 35421559b90ae4d0a3588c463048766b98c2df88dd9212a6774a882060cdf62d: not written by this session
import Derived.Test.YtinddalpchkllaaPFnPackParamx0
namespace Go.Proofs.Ytinddalpchkllaa.PFnPackParam
open Go.RowKit Go.Proofs.YtinddalpchkllaaW.PrintWords Go.Proofs.YtinddalpchkllaaW.PrintLast Go.Proofs.YtinddalpchkllaaW.PrintMore
attribute [local go_sem] max2_int min2_int max_two min_two max_three min_three max_four min_four   -- for this text's walks alone
set_option linter.unusedVariables false
set_option linter.unusedSimpArgs false

/-! ### xansi_Param_Param: function 32 -/
def xansi_Param_Param.f (a0 : Int) (a1 : Int) : Option (Int) := if (Go.bits .and .i64 a0 2147483647) = 2147483647 then (some a1) else (some (Go.bits .and .i64 a0 2147483647))
set_option maxHeartbeats 8000000 in
set_option maxRecDepth 100000 in
theorem xansi_Param_Param.calls (a0 : Int) (a1 : Int) (r : Int) (w : World) (h : xansi_Param_Param.f a0 a1 = some r) :
    Calls Try.prog 32 #[.int .i64 a0, .int .i64 a1] w fun e w' => e = .returned (.int .i64 r) ∧ Drawn0 w w' := by
  have H : (if (Go.bits .and .i64 a0 2147483647) = 2147483647 then (some a1) else (some (Go.bits .and .i64 a0 2147483647))) = some r := h
  clear h
  by_cases c3 : (Go.bits .and .i64 a0 2147483647) = 2147483647
  · rw [if_pos c3] at H
    have c3b0 : ((Go.bits .and .i64 a0 2147483647) == 2147483647) = true := beq_iff_eq.mpr c3
    have c3b1 : ((Go.bits .and .i64 a0 2147483647) != 2147483647) = false := bne_eq_false_iff_eq.mpr c3
    clear c3
    obtain rfl := Option.some.inj H
    go_enter Try.func32, Try.ntmps32
    go_wp2
    go_ret
    exact ⟨by first | rfl | (simp; done) | (simp [*]; done), by repeat (first | exact Drawn0.refl _ | apply Drawn0.step)⟩
  · rw [if_neg c3] at H
    have c3b0 : ((Go.bits .and .i64 a0 2147483647) == 2147483647) = false := beq_eq_false_iff_ne.mpr c3
    have c3b1 : ((Go.bits .and .i64 a0 2147483647) != 2147483647) = true := bne_iff_ne.mpr c3
    obtain rfl := Option.some.inj H
    go_enter Try.func32, Try.ntmps32
    go_wp2
    go_ret
    exact ⟨by first | rfl | (simp; done) | (simp [*]; done), by repeat (first | exact Drawn0.refl _ | apply Drawn0.step)⟩

/-! ### xansi_Param_HasMore: function 33 -/
def xansi_Param_HasMore.f (a0 : Int) : Option (Bool) := some ((Go.bits .and .i64 a0 (-2147483648)) != 0)
set_option maxHeartbeats 8000000 in
set_option maxRecDepth 100000 in
theorem xansi_Param_HasMore.calls (a0 : Int) (r : Bool) (w : World) (h : xansi_Param_HasMore.f a0 = some r) :
    Calls Try.prog 33 #[.int .i64 a0] w fun e w' => e = .returned (.bool r) ∧ Drawn0 w w' := by
  have H : (some ((Go.bits .and .i64 a0 (-2147483648)) != 0)) = some r := h
  clear h
  obtain rfl := Option.some.inj H
  go_enter Try.func33, Try.ntmps33
  go_wp2
  go_ret
  exact ⟨by first | rfl | (simp; done) | (simp [*]; done), by repeat (first | exact Drawn0.refl _ | apply Drawn0.step)⟩

/-! ### impl_UnpackParam: function 11 -/
def impl_UnpackParam.f (a0 : Int) (a1 : Int) : Option (Int × Bool) := (xansi_Param_Param.f a0 a1).bind fun t101 => ((xansi_Param_HasMore.f a0).bind fun t102 => (some (t101, t102)))
set_option maxHeartbeats 8000000 in
set_option maxRecDepth 100000 in
theorem impl_UnpackParam.calls (a0 : Int) (a1 : Int) (r1 : Int) (r2 : Bool) (w : World) (h : impl_UnpackParam.f a0 a1 = some (r1, r2)) :
    Calls Try.prog 11 #[.int .i64 a0, .int .i64 a1] w fun e w' => e = .returned (.tuple #[.int .i64 r1, .bool r2]) ∧ Drawn0 w w' := by
  have H : ((xansi_Param_Param.f a0 a1).bind fun t101 => ((xansi_Param_HasMore.f a0).bind fun t102 => (some (t101, t102)))) = some (r1, r2) := h
  clear h
  replace H := Option.bind_eq_some_iff.mp H
  obtain ⟨t101, A30, H⟩ := H
  replace H : ((xansi_Param_HasMore.f a0).bind fun t102 => (some (t101, t102))) = some (r1, r2) := H
  have A3 := Aside0.mk A30
  clear A30
  replace H := Option.bind_eq_some_iff.mp H
  obtain ⟨t102, A40, H⟩ := H
  replace H : (some (t101, t102)) = some (r1, r2) := H
  have A4 := Aside0.mk A40
  clear A40
  simp only [Option.some.injEq, Prod.mk.injEq] at H
  obtain ⟨rfl, rfl⟩ := H
  go_enter Try.func11, Try.ntmps11
  go_wp2_with (first | ((with_reducible refine gate_callee (f := 32) rfl ?_); refine goesL_ (some 10) rfl rfl Try.func32 (by kernel_rfl) rfl #[.int .i64 a0, .int .i64 a1] rfl (by (try simp only [List.map_toArray, List.map_cons, List.map_nil]); first | done | rfl | (simp only [List.length_drop, List.length_take]; rfl)) ?_; (with_reducible refine (xansi_Param_Param.calls a0 a1 t101 _ A3.out).mono ?_); rintro e w' ⟨rfl, ⟨nd, rfl⟩⟩; refine ⟨_, rfl, ?_⟩) | ((with_reducible refine gate_callee (f := 33) rfl ?_); refine goesL_ (some 12) rfl rfl Try.func33 (by kernel_rfl) rfl #[.int .i64 a0] rfl (by (try simp only [List.map_toArray, List.map_cons, List.map_nil]); first | done | rfl | (simp only [List.length_drop, List.length_take]; rfl)) ?_; (with_reducible refine (xansi_Param_HasMore.calls a0 t102 _ A4.out).mono ?_); rintro e w' ⟨rfl, ⟨nd, rfl⟩⟩; refine ⟨_, rfl, ?_⟩))
  go_ret2
  exact ⟨by first | rfl | (simp; done) | (simp [*]; done), by repeat (first | exact Drawn0.refl _ | apply Drawn0.step)⟩

/-! ### spec_Value: function 16 -/
def spec_Value.f (a0 : Int) : Option (Int) := some (Go.bits .and .i64 a0 2147483647)
set_option maxHeartbeats 8000000 in
set_option maxRecDepth 100000 in
theorem spec_Value.calls (a0 : Int) (r : Int) (w : World) (h : spec_Value.f a0 = some r) :
    Calls Try.prog 16 #[.int .i64 a0] w fun e w' => e = .returned (.int .i64 r) ∧ Drawn0 w w' := by
  have H : (some (Go.bits .and .i64 a0 2147483647)) = some r := h
  clear h
  obtain rfl := Option.some.inj H
  go_enter Try.func16, Try.ntmps16
  go_wp2
  go_ret
  exact ⟨by first | rfl | (simp; done) | (simp [*]; done), by repeat (first | exact Drawn0.refl _ | apply Drawn0.step)⟩

/-! ### spec_Or: function 12 -/
def spec_Or.f (a0 : Int) (a1 : Int) : Option (Int) := (spec_Value.f a0).bind fun t103 => (if t103 = 2147483647 then (some a1) else ((spec_Value.f a0).bind fun t104 => (some t104)))
set_option maxHeartbeats 8000000 in
set_option maxRecDepth 100000 in
theorem spec_Or.calls (a0 : Int) (a1 : Int) (r : Int) (w : World) (h : spec_Or.f a0 a1 = some r) :
    Calls Try.prog 12 #[.int .i64 a0, .int .i64 a1] w fun e w' => e = .returned (.int .i64 r) ∧ Drawn0 w w' := by
  have H : ((spec_Value.f a0).bind fun t103 => (if t103 = 2147483647 then (some a1) else ((spec_Value.f a0).bind fun t104 => (some t104)))) = some r := h
  clear h
  replace H := Option.bind_eq_some_iff.mp H
  obtain ⟨t103, A30, H⟩ := H
  replace H : (if t103 = 2147483647 then (some a1) else ((spec_Value.f a0).bind fun t104 => (some t104))) = some r := H
  have A3 := Aside0.mk A30
  clear A30
  by_cases c4 : t103 = 2147483647
  · rw [if_pos c4] at H
    have c4b0 : (t103 == 2147483647) = true := beq_iff_eq.mpr c4
    have c4b1 : (t103 != 2147483647) = false := bne_eq_false_iff_eq.mpr c4
    clear c4
    obtain rfl := Option.some.inj H
    go_enter Try.func12, Try.ntmps12
    go_wp2_with (first | ((with_reducible refine gate_callee (f := 16) rfl ?_); refine goesL_ (some 6) rfl rfl Try.func16 (by kernel_rfl) rfl #[.int .i64 a0] rfl (by (try simp only [List.map_toArray, List.map_cons, List.map_nil]); first | done | rfl | (simp only [List.length_drop, List.length_take]; rfl)) ?_; (with_reducible refine (spec_Value.calls a0 t103 _ A3.out).mono ?_); rintro e w' ⟨rfl, ⟨nd, rfl⟩⟩; refine ⟨_, rfl, ?_⟩))
    go_ret
    exact ⟨by first | rfl | (simp; done) | (simp [*]; done), by repeat (first | exact Drawn0.refl _ | apply Drawn0.step)⟩
  · rw [if_neg c4] at H
    have c4b0 : (t103 == 2147483647) = false := beq_eq_false_iff_ne.mpr c4
    have c4b1 : (t103 != 2147483647) = true := bne_iff_ne.mpr c4
    replace H := Option.bind_eq_some_iff.mp H
    obtain ⟨t104, A50, H⟩ := H
    replace H : (some t104) = some r := H
    have A5 := Aside0.mk A50
    clear A50
    obtain rfl := Option.some.inj H
    go_enter Try.func12, Try.ntmps12
    go_wp2_with (first | ((with_reducible refine gate_callee (f := 16) rfl ?_); refine goesL_ (some 6) rfl rfl Try.func16 (by kernel_rfl) rfl #[.int .i64 a0] rfl (by (try simp only [List.map_toArray, List.map_cons, List.map_nil]); first | done | rfl | (simp only [List.length_drop, List.length_take]; rfl)) ?_; (with_reducible refine (spec_Value.calls a0 t103 _ A3.out).mono ?_); rintro e w' ⟨rfl, ⟨nd, rfl⟩⟩; refine ⟨_, rfl, ?_⟩) | ((with_reducible refine gate_callee (f := 16) rfl ?_); refine goesL_ (some 10) rfl rfl Try.func16 (by kernel_rfl) rfl #[.int .i64 a0] rfl (by (try simp only [List.map_toArray, List.map_cons, List.map_nil]); first | done | rfl | (simp only [List.length_drop, List.length_take]; rfl)) ?_; (with_reducible refine (spec_Value.calls a0 t104 _ A5.out).mono ?_); rintro e w' ⟨rfl, ⟨nd, rfl⟩⟩; refine ⟨_, rfl, ?_⟩))
    go_ret
    exact ⟨by first | rfl | (simp; done) | (simp [*]; done), by repeat (first | exact Drawn0.refl _ | apply Drawn0.step)⟩

/-! ### spec_More: function 13 -/
def spec_More.f (a0 : Int) : Option (Bool) := some ((Go.bits .and .i64 a0 (-2147483648)) != 0)
set_option maxHeartbeats 8000000 in
set_option maxRecDepth 100000 in
theorem spec_More.calls (a0 : Int) (r : Bool) (w : World) (h : spec_More.f a0 = some r) :
    Calls Try.prog 13 #[.int .i64 a0] w fun e w' => e = .returned (.bool r) ∧ Drawn0 w w' := by
  have H : (some ((Go.bits .and .i64 a0 (-2147483648)) != 0)) = some r := h
  clear h
  obtain rfl := Option.some.inj H
  go_enter Try.func13, Try.ntmps13
  go_wp2
  go_ret
  exact ⟨by first | rfl | (simp; done) | (simp [*]; done), by repeat (first | exact Drawn0.refl _ | apply Drawn0.step)⟩

/-! ### xansi_Command: function 35 -/
def xansi_Command.f (a0 : Int) (a1 : Int) (a2 : Int) : Option (Int) := some (Go.bits .or .i64 (Go.bits .or .i64 (wrap64 (a2)) (wrap64 ((wrap64 (a0)) * 256))) (wrap64 ((wrap64 (a1)) * 65536)))
set_option maxHeartbeats 8000000 in
set_option maxRecDepth 100000 in
theorem xansi_Command.calls (a0 : Int) (a1 : Int) (a2 : Int) (r : Int) (w : World) (h : xansi_Command.f a0 a1 a2 = some r) :
    Calls Try.prog 35 #[.int .u8 a0, .int .u8 a1, .int .u8 a2] w fun e w' => e = .returned (.int .i64 r) ∧ Drawn0 w w' := by
  have H : (some (Go.bits .or .i64 (Go.bits .or .i64 (wrap64 (a2)) (wrap64 ((wrap64 (a0)) * 256))) (wrap64 ((wrap64 (a1)) * 65536)))) = some r := h
  clear h
  obtain rfl := Option.some.inj H
  go_enter Try.func35, Try.ntmps35
  go_wp2
  go_ret
  exact ⟨by first | rfl | (simp; done) | (simp [*]; done), by repeat (first | exact Drawn0.refl _ | apply Drawn0.step)⟩

/-! ### impl_Pack: function 17 -/
def impl_Pack.f (a0 : Int) (a1 : Int) (a2 : Int) : Option (Int) := (xansi_Command.f a0 a1 a2).bind fun t105 => (some t105)
set_option maxHeartbeats 8000000 in
set_option maxRecDepth 100000 in
theorem impl_Pack.calls (a0 : Int) (a1 : Int) (a2 : Int) (r : Int) (w : World) (h : impl_Pack.f a0 a1 a2 = some r) :
    Calls Try.prog 17 #[.int .u8 a0, .int .u8 a1, .int .u8 a2] w fun e w' => e = .returned (.int .i64 r) ∧ Drawn0 w w' := by
  have H : ((xansi_Command.f a0 a1 a2).bind fun t105 => (some t105)) = some r := h
  clear h
  replace H := Option.bind_eq_some_iff.mp H
  obtain ⟨t105, A40, H⟩ := H
  replace H : (some t105) = some r := H
  have A4 := Aside0.mk A40
  clear A40
  obtain rfl := Option.some.inj H
  go_enter Try.func17, Try.ntmps17
  go_wp2_with (first | ((with_reducible refine gate_callee (f := 35) rfl ?_); refine goesL_ (some 10) rfl rfl Try.func35 (by kernel_rfl) rfl #[.int .u8 a0, .int .u8 a1, .int .u8 a2] rfl (by (try simp only [List.map_toArray, List.map_cons, List.map_nil]); first | done | rfl | (simp only [List.length_drop, List.length_take]; rfl)) ?_; (with_reducible refine (xansi_Command.calls a0 a1 a2 t105 _ A4.out).mono ?_); rintro e w' ⟨rfl, ⟨nd, rfl⟩⟩; refine ⟨_, rfl, ?_⟩))
  go_ret
  exact ⟨by first | rfl | (simp; done) | (simp [*]; done), by repeat (first | exact Drawn0.refl _ | apply Drawn0.step)⟩

/-! ### laws_packAwake: function 14 -/
def laws_packAwake.f  : Option (Bool) := (impl_Pack.f 63 32 104).bind fun t106 => (some (t106 == 2113384))
set_option maxHeartbeats 8000000 in
set_option maxRecDepth 100000 in
theorem laws_packAwake.calls  (r : Bool) (w : World) (h : laws_packAwake.f  = some r) :
    Calls Try.prog 14 #[] w fun e w' => e = .returned (.bool r) ∧ Drawn0 w w' := by
  have H : ((impl_Pack.f 63 32 104).bind fun t106 => (some (t106 == 2113384))) = some r := h
  clear h
  replace H := Option.bind_eq_some_iff.mp H
  obtain ⟨t106, A10, H⟩ := H
  replace H : (some (t106 == 2113384)) = some r := H
  have A1 := Aside0.mk A10
  clear A10
  obtain rfl := Option.some.inj H
  go_enter Try.func14, Try.ntmps14
  go_wp2_with (first | ((with_reducible refine gate_callee (f := 17) rfl ?_); refine goesL_ (some 1) rfl rfl Try.func17 (by kernel_rfl) rfl #[.int .u8 63, .int .u8 32, .int .u8 104] rfl (by (try simp only [List.map_toArray, List.map_cons, List.map_nil]); first | done | rfl | (simp only [List.length_drop, List.length_take]; rfl)) ?_; (with_reducible refine (impl_Pack.calls 63 32 104 t106 _ A1.out).mono ?_); rintro e w' ⟨rfl, ⟨nd, rfl⟩⟩; refine ⟨_, rfl, ?_⟩))
  go_ret
  exact ⟨by first | rfl | (simp; done) | (simp [*]; done), by repeat (first | exact Drawn0.refl _ | apply Drawn0.step)⟩

/-! ### xansi_Parameter: function 34 -/
def xansi_Parameter.f (a0 : Int) (a1 : Bool) : Option (Int) := if a1 = true then (some (Go.bits .or .i64 (Go.bits .and .i64 a0 2147483647) (-2147483648))) else (some (Go.bits .and .i64 a0 2147483647))
set_option maxHeartbeats 8000000 in
set_option maxRecDepth 100000 in
theorem xansi_Parameter.calls (a0 : Int) (a1 : Bool) (r : Int) (w : World) (h : xansi_Parameter.f a0 a1 = some r) :
    Calls Try.prog 34 #[.int .i64 a0, .bool a1] w fun e w' => e = .returned (.int .i64 r) ∧ Drawn0 w w' := by
  have H : (if a1 = true then (some (Go.bits .or .i64 (Go.bits .and .i64 a0 2147483647) (-2147483648))) else (some (Go.bits .and .i64 a0 2147483647))) = some r := h
  clear h
  by_cases c3 : a1 = true
  · subst c3
    have H1 : (some (Go.bits .or .i64 (Go.bits .and .i64 a0 2147483647) (-2147483648))) = some r := by rw [if_pos rfl] at H; exact H
    clear H
    have H := H1
    clear H1
    obtain rfl := Option.some.inj H
    go_enter Try.func34, Try.ntmps34
    go_wp2
    go_ret
    exact ⟨by first | rfl | (simp; done) | (simp [*]; done), by repeat (first | exact Drawn0.refl _ | apply Drawn0.step)⟩
  · replace c3 := Bool.eq_false_iff.mpr c3
    subst c3
    have H1 : (some (Go.bits .and .i64 a0 2147483647)) = some r := by rw [if_neg (show ¬ (false = true) by decide)] at H; exact H
    clear H
    have H := H1
    clear H1
    obtain rfl := Option.some.inj H
    go_enter Try.func34, Try.ntmps34
    go_wp2
    go_ret
    exact ⟨by first | rfl | (simp; done) | (simp [*]; done), by repeat (first | exact Drawn0.refl _ | apply Drawn0.step)⟩

/-! ### impl_PackParam: function 15 -/
def impl_PackParam.f (a0 : Int) (a1 : Bool) : Option (Int) := (xansi_Parameter.f a0 a1).bind fun t107 => (some t107)
set_option maxHeartbeats 8000000 in
set_option maxRecDepth 100000 in
theorem impl_PackParam.calls (a0 : Int) (a1 : Bool) (r : Int) (w : World) (h : impl_PackParam.f a0 a1 = some r) :
    Calls Try.prog 15 #[.int .i64 a0, .bool a1] w fun e w' => e = .returned (.int .i64 r) ∧ Drawn0 w w' := by
  have H : ((xansi_Parameter.f a0 a1).bind fun t107 => (some t107)) = some r := h
  clear h
  replace H := Option.bind_eq_some_iff.mp H
  obtain ⟨t107, A30, H⟩ := H
  replace H : (some t107) = some r := H
  have A3 := Aside0.mk A30
  clear A30
  obtain rfl := Option.some.inj H
  go_enter Try.func15, Try.ntmps15
  go_wp2_with (first | ((with_reducible refine gate_callee (f := 34) rfl ?_); refine goesL_ (some 7) rfl rfl Try.func34 (by kernel_rfl) rfl #[.int .i64 a0, .bool a1] rfl (by (try simp only [List.map_toArray, List.map_cons, List.map_nil]); first | done | rfl | (simp only [List.length_drop, List.length_take]; rfl)) ?_; (with_reducible refine (xansi_Parameter.calls a0 a1 t107 _ A3.out).mono ?_); rintro e w' ⟨rfl, ⟨nd, rfl⟩⟩; refine ⟨_, rfl, ?_⟩))
  go_ret
  exact ⟨by first | rfl | (simp; done) | (simp [*]; done), by repeat (first | exact Drawn0.refl _ | apply Drawn0.step)⟩

/-! ### laws_FnPackParam: function 4 -/
def laws_FnPackParam.f (a0 : Int) (a1 : Int) (a2 : Bool) : Option (Bool) := (impl_PackParam.f a0 a2).bind fun t108 => ((impl_UnpackParam.f t108 a1).bind fun bt109 => ((spec_Or.f (Go.bits .and .i64 a0 2147483647) a1).bind fun t111 => (if bt109.1 = t111 then (if (bt109.2 == a2) = true then ((spec_More.f t108).bind fun t112 => (if (t112 == a2) = true then ((spec_Value.f t108).bind fun t113 => ((spec_Value.f a0).bind fun t114 => (if t113 = t114 then ((laws_packAwake.f).bind fun t115 => (some t115)) else (some false)))) else (some false))) else (some false)) else (some false))))
set_option maxHeartbeats 8000000 in
set_option maxRecDepth 100000 in
theorem laws_FnPackParam.calls (a0 : Int) (a1 : Int) (a2 : Bool) (r : Bool) (w : World) (h : laws_FnPackParam.f a0 a1 a2 = some r) :
    Calls Try.prog 4 #[.int .i64 a0, .int .i64 a1, .bool a2] w fun e w' => e = .returned (.bool r) ∧ Drawn0 w w' := by
  have H : ((impl_PackParam.f a0 a2).bind fun t108 => ((impl_UnpackParam.f t108 a1).bind fun bt109 => ((spec_Or.f (Go.bits .and .i64 a0 2147483647) a1).bind fun t111 => (if bt109.1 = t111 then (if (bt109.2 == a2) = true then ((spec_More.f t108).bind fun t112 => (if (t112 == a2) = true then ((spec_Value.f t108).bind fun t113 => ((spec_Value.f a0).bind fun t114 => (if t113 = t114 then ((laws_packAwake.f).bind fun t115 => (some t115)) else (some false)))) else (some false))) else (some false)) else (some false))))) = some r := h
  clear h
  replace H := Option.bind_eq_some_iff.mp H
  obtain ⟨t108, A40, H⟩ := H
  replace H : ((impl_UnpackParam.f t108 a1).bind fun bt109 => ((spec_Or.f (Go.bits .and .i64 a0 2147483647) a1).bind fun t111 => (if bt109.1 = t111 then (if (bt109.2 == a2) = true then ((spec_More.f t108).bind fun t112 => (if (t112 == a2) = true then ((spec_Value.f t108).bind fun t113 => ((spec_Value.f a0).bind fun t114 => (if t113 = t114 then ((laws_packAwake.f).bind fun t115 => (some t115)) else (some false)))) else (some false))) else (some false)) else (some false)))) = some r := H
  have A4 := Aside0.mk A40
  clear A40
  replace H := Option.bind_eq_some_iff.mp H
  obtain ⟨⟨t109, t110⟩, A50, H⟩ := H
  replace H : ((spec_Or.f (Go.bits .and .i64 a0 2147483647) a1).bind fun t111 => (if t109 = t111 then (if (t110 == a2) = true then ((spec_More.f t108).bind fun t112 => (if (t112 == a2) = true then ((spec_Value.f t108).bind fun t113 => ((spec_Value.f a0).bind fun t114 => (if t113 = t114 then ((laws_packAwake.f).bind fun t115 => (some t115)) else (some false)))) else (some false))) else (some false)) else (some false))) = some r := H
  have A5 := Aside0.mk A50
  clear A50
  replace H := Option.bind_eq_some_iff.mp H
  obtain ⟨t111, A60, H⟩ := H
  replace H : (if t109 = t111 then (if (t110 == a2) = true then ((spec_More.f t108).bind fun t112 => (if (t112 == a2) = true then ((spec_Value.f t108).bind fun t113 => ((spec_Value.f a0).bind fun t114 => (if t113 = t114 then ((laws_packAwake.f).bind fun t115 => (some t115)) else (some false)))) else (some false))) else (some false)) else (some false)) = some r := H
  have A6 := Aside0.mk A60
  clear A60
  by_cases c7 : t109 = t111
  · rw [if_pos c7] at H
    have c7b0 : (t109 == t111) = true := beq_iff_eq.mpr c7
    have c7b1 : (t109 != t111) = false := bne_eq_false_iff_eq.mpr c7
    clear c7
    by_cases c8 : (t110 == a2) = true
    · rw [if_pos c8] at H
      have c8b0 : (t110 == a2) = true := c8
      (try (have c8b1 : decide (t110 = a2) = true := by simpa using c8))
      (try (have c8b2 : (t110 == a2) = true := by simpa using c8))
      clear c8
      replace H := Option.bind_eq_some_iff.mp H
      obtain ⟨t112, A90, H⟩ := H
      replace H : (if (t112 == a2) = true then ((spec_Value.f t108).bind fun t113 => ((spec_Value.f a0).bind fun t114 => (if t113 = t114 then ((laws_packAwake.f).bind fun t115 => (some t115)) else (some false)))) else (some false)) = some r := H
      have A9 := Aside0.mk A90
      clear A90
      by_cases c10 : (t112 == a2) = true
      · rw [if_pos c10] at H
        have c10b0 : (t112 == a2) = true := c10
        (try (have c10b1 : decide (t112 = a2) = true := by simpa using c10))
        (try (have c10b2 : (t112 == a2) = true := by simpa using c10))
        clear c10
        replace H := Option.bind_eq_some_iff.mp H
        obtain ⟨t113, A110, H⟩ := H
        replace H : ((spec_Value.f a0).bind fun t114 => (if t113 = t114 then ((laws_packAwake.f).bind fun t115 => (some t115)) else (some false))) = some r := H
        have A11 := Aside0.mk A110
        clear A110
        replace H := Option.bind_eq_some_iff.mp H
        obtain ⟨t114, A120, H⟩ := H
        replace H : (if t113 = t114 then ((laws_packAwake.f).bind fun t115 => (some t115)) else (some false)) = some r := H
        have A12 := Aside0.mk A120
        clear A120
        by_cases c13 : t113 = t114
        · rw [if_pos c13] at H
          have c13b0 : (t113 == t114) = true := beq_iff_eq.mpr c13
          have c13b1 : (t113 != t114) = false := bne_eq_false_iff_eq.mpr c13
          clear c13
          replace H := Option.bind_eq_some_iff.mp H
          obtain ⟨t115, A140, H⟩ := H
          replace H : (some t115) = some r := H
          have A14 := Aside0.mk A140
          clear A140
          obtain rfl := Option.some.inj H
          go_enter Try.func4, Try.ntmps4
          go_wp2_with (first | ((with_reducible refine gate_callee (f := 15) rfl ?_); refine goesL_ (some 12) rfl rfl Try.func15 (by kernel_rfl) rfl #[.int .i64 a0, .bool a2] rfl (by (try simp only [List.map_toArray, List.map_cons, List.map_nil]); first | done | rfl | (simp only [List.length_drop, List.length_take]; rfl)) ?_; (with_reducible refine (impl_PackParam.calls a0 a2 t108 _ A4.out).mono ?_); rintro e w' ⟨rfl, ⟨nd, rfl⟩⟩; refine ⟨_, rfl, ?_⟩) | ((with_reducible refine gate_callee (f := 11) rfl ?_); refine goesL_ (some 16) rfl rfl Try.func11 (by kernel_rfl) rfl #[.int .i64 t108, .int .i64 a1] rfl (by (try simp only [List.map_toArray, List.map_cons, List.map_nil]); first | done | rfl | (simp only [List.length_drop, List.length_take]; rfl)) ?_; (with_reducible refine (impl_UnpackParam.calls t108 a1 t109 t110 _ A5.out).mono ?_); rintro e w' ⟨rfl, ⟨nd, rfl⟩⟩; refine ⟨_, rfl, ?_⟩) | ((with_reducible refine gate_callee (f := 12) rfl ?_); refine goesL_ (some 23) rfl rfl Try.func12 (by kernel_rfl) rfl #[.int .i64 (Go.bits .and .i64 a0 2147483647), .int .i64 a1] rfl (by (try simp only [List.map_toArray, List.map_cons, List.map_nil]); first | done | rfl | (simp only [List.length_drop, List.length_take]; rfl)) ?_; (with_reducible refine (spec_Or.calls (Go.bits .and .i64 a0 2147483647) a1 t111 _ A6.out).mono ?_); rintro e w' ⟨rfl, ⟨nd, rfl⟩⟩; refine ⟨_, rfl, ?_⟩) | (go_at_call 13; (with_reducible refine (spec_More.calls t108 t112 _ A9.out).mono ?_); rintro e w' ⟨rfl, ⟨nd, rfl⟩⟩) | (go_at_call 16; (with_reducible refine (spec_Value.calls t108 t113 _ A11.out).mono ?_); rintro e w' ⟨rfl, ⟨nd, rfl⟩⟩) | (go_at_call 16; (with_reducible refine (spec_Value.calls a0 t114 _ A12.out).mono ?_); rintro e w' ⟨rfl, ⟨nd, rfl⟩⟩) | (go_at_call 14; (with_reducible refine (laws_packAwake.calls  t115 _ A14.out).mono ?_); rintro e w' ⟨rfl, ⟨nd, rfl⟩⟩))
          go_ret
          exact ⟨by first | rfl | (simp; done) | (simp [*]; done), by repeat (first | exact Drawn0.refl _ | apply Drawn0.step)⟩
        · rw [if_neg c13] at H
          have c13b0 : (t113 == t114) = false := beq_eq_false_iff_ne.mpr c13
          have c13b1 : (t113 != t114) = true := bne_iff_ne.mpr c13
          obtain rfl := Option.some.inj H
          go_enter Try.func4, Try.ntmps4
          go_wp2_with (first | ((with_reducible refine gate_callee (f := 15) rfl ?_); refine goesL_ (some 12) rfl rfl Try.func15 (by kernel_rfl) rfl #[.int .i64 a0, .bool a2] rfl (by (try simp only [List.map_toArray, List.map_cons, List.map_nil]); first | done | rfl | (simp only [List.length_drop, List.length_take]; rfl)) ?_; (with_reducible refine (impl_PackParam.calls a0 a2 t108 _ A4.out).mono ?_); rintro e w' ⟨rfl, ⟨nd, rfl⟩⟩; refine ⟨_, rfl, ?_⟩) | ((with_reducible refine gate_callee (f := 11) rfl ?_); refine goesL_ (some 16) rfl rfl Try.func11 (by kernel_rfl) rfl #[.int .i64 t108, .int .i64 a1] rfl (by (try simp only [List.map_toArray, List.map_cons, List.map_nil]); first | done | rfl | (simp only [List.length_drop, List.length_take]; rfl)) ?_; (with_reducible refine (impl_UnpackParam.calls t108 a1 t109 t110 _ A5.out).mono ?_); rintro e w' ⟨rfl, ⟨nd, rfl⟩⟩; refine ⟨_, rfl, ?_⟩) | ((with_reducible refine gate_callee (f := 12) rfl ?_); refine goesL_ (some 23) rfl rfl Try.func12 (by kernel_rfl) rfl #[.int .i64 (Go.bits .and .i64 a0 2147483647), .int .i64 a1] rfl (by (try simp only [List.map_toArray, List.map_cons, List.map_nil]); first | done | rfl | (simp only [List.length_drop, List.length_take]; rfl)) ?_; (with_reducible refine (spec_Or.calls (Go.bits .and .i64 a0 2147483647) a1 t111 _ A6.out).mono ?_); rintro e w' ⟨rfl, ⟨nd, rfl⟩⟩; refine ⟨_, rfl, ?_⟩) | (go_at_call 13; (with_reducible refine (spec_More.calls t108 t112 _ A9.out).mono ?_); rintro e w' ⟨rfl, ⟨nd, rfl⟩⟩) | (go_at_call 16; (with_reducible refine (spec_Value.calls t108 t113 _ A11.out).mono ?_); rintro e w' ⟨rfl, ⟨nd, rfl⟩⟩) | (go_at_call 16; (with_reducible refine (spec_Value.calls a0 t114 _ A12.out).mono ?_); rintro e w' ⟨rfl, ⟨nd, rfl⟩⟩))
          go_ret
          exact ⟨by first | rfl | (simp; done) | (simp [*]; done), by repeat (first | exact Drawn0.refl _ | apply Drawn0.step)⟩
      · rw [if_neg c10] at H
        have c10b0 : (t112 == a2) = false := by simpa using c10
        (try (have c10b1 : decide (t112 = a2) = false := by simpa using c10))
        (try (have c10b2 : (t112 == a2) = false := by simpa using c10))
        (try (have c10b3 : ¬ (t112 = a2) := by simpa using c10))
        clear c10
        obtain rfl := Option.some.inj H
        go_enter Try.func4, Try.ntmps4
        go_wp2_with (first | ((with_reducible refine gate_callee (f := 15) rfl ?_); refine goesL_ (some 12) rfl rfl Try.func15 (by kernel_rfl) rfl #[.int .i64 a0, .bool a2] rfl (by (try simp only [List.map_toArray, List.map_cons, List.map_nil]); first | done | rfl | (simp only [List.length_drop, List.length_take]; rfl)) ?_; (with_reducible refine (impl_PackParam.calls a0 a2 t108 _ A4.out).mono ?_); rintro e w' ⟨rfl, ⟨nd, rfl⟩⟩; refine ⟨_, rfl, ?_⟩) | ((with_reducible refine gate_callee (f := 11) rfl ?_); refine goesL_ (some 16) rfl rfl Try.func11 (by kernel_rfl) rfl #[.int .i64 t108, .int .i64 a1] rfl (by (try simp only [List.map_toArray, List.map_cons, List.map_nil]); first | done | rfl | (simp only [List.length_drop, List.length_take]; rfl)) ?_; (with_reducible refine (impl_UnpackParam.calls t108 a1 t109 t110 _ A5.out).mono ?_); rintro e w' ⟨rfl, ⟨nd, rfl⟩⟩; refine ⟨_, rfl, ?_⟩) | ((with_reducible refine gate_callee (f := 12) rfl ?_); refine goesL_ (some 23) rfl rfl Try.func12 (by kernel_rfl) rfl #[.int .i64 (Go.bits .and .i64 a0 2147483647), .int .i64 a1] rfl (by (try simp only [List.map_toArray, List.map_cons, List.map_nil]); first | done | rfl | (simp only [List.length_drop, List.length_take]; rfl)) ?_; (with_reducible refine (spec_Or.calls (Go.bits .and .i64 a0 2147483647) a1 t111 _ A6.out).mono ?_); rintro e w' ⟨rfl, ⟨nd, rfl⟩⟩; refine ⟨_, rfl, ?_⟩) | (go_at_call 13; (with_reducible refine (spec_More.calls t108 t112 _ A9.out).mono ?_); rintro e w' ⟨rfl, ⟨nd, rfl⟩⟩))
        go_ret
        exact ⟨by first | rfl | (simp; done) | (simp [*]; done), by repeat (first | exact Drawn0.refl _ | apply Drawn0.step)⟩
    · rw [if_neg c8] at H
      have c8b0 : (t110 == a2) = false := by simpa using c8
      (try (have c8b1 : decide (t110 = a2) = false := by simpa using c8))
      (try (have c8b2 : (t110 == a2) = false := by simpa using c8))
      (try (have c8b3 : ¬ (t110 = a2) := by simpa using c8))
      clear c8
      obtain rfl := Option.some.inj H
      go_enter Try.func4, Try.ntmps4
      go_wp2_with (first | ((with_reducible refine gate_callee (f := 15) rfl ?_); refine goesL_ (some 12) rfl rfl Try.func15 (by kernel_rfl) rfl #[.int .i64 a0, .bool a2] rfl (by (try simp only [List.map_toArray, List.map_cons, List.map_nil]); first | done | rfl | (simp only [List.length_drop, List.length_take]; rfl)) ?_; (with_reducible refine (impl_PackParam.calls a0 a2 t108 _ A4.out).mono ?_); rintro e w' ⟨rfl, ⟨nd, rfl⟩⟩; refine ⟨_, rfl, ?_⟩) | ((with_reducible refine gate_callee (f := 11) rfl ?_); refine goesL_ (some 16) rfl rfl Try.func11 (by kernel_rfl) rfl #[.int .i64 t108, .int .i64 a1] rfl (by (try simp only [List.map_toArray, List.map_cons, List.map_nil]); first | done | rfl | (simp only [List.length_drop, List.length_take]; rfl)) ?_; (with_reducible refine (impl_UnpackParam.calls t108 a1 t109 t110 _ A5.out).mono ?_); rintro e w' ⟨rfl, ⟨nd, rfl⟩⟩; refine ⟨_, rfl, ?_⟩) | ((with_reducible refine gate_callee (f := 12) rfl ?_); refine goesL_ (some 23) rfl rfl Try.func12 (by kernel_rfl) rfl #[.int .i64 (Go.bits .and .i64 a0 2147483647), .int .i64 a1] rfl (by (try simp only [List.map_toArray, List.map_cons, List.map_nil]); first | done | rfl | (simp only [List.length_drop, List.length_take]; rfl)) ?_; (with_reducible refine (spec_Or.calls (Go.bits .and .i64 a0 2147483647) a1 t111 _ A6.out).mono ?_); rintro e w' ⟨rfl, ⟨nd, rfl⟩⟩; refine ⟨_, rfl, ?_⟩))
      go_ret
      exact ⟨by first | rfl | (simp; done) | (simp [*]; done), by repeat (first | exact Drawn0.refl _ | apply Drawn0.step)⟩
  · rw [if_neg c7] at H
    have c7b0 : (t109 == t111) = false := beq_eq_false_iff_ne.mpr c7
    have c7b1 : (t109 != t111) = true := bne_iff_ne.mpr c7
    obtain rfl := Option.some.inj H
    go_enter Try.func4, Try.ntmps4
    go_wp2_with (first | ((with_reducible refine gate_callee (f := 15) rfl ?_); refine goesL_ (some 12) rfl rfl Try.func15 (by kernel_rfl) rfl #[.int .i64 a0, .bool a2] rfl (by (try simp only [List.map_toArray, List.map_cons, List.map_nil]); first | done | rfl | (simp only [List.length_drop, List.length_take]; rfl)) ?_; (with_reducible refine (impl_PackParam.calls a0 a2 t108 _ A4.out).mono ?_); rintro e w' ⟨rfl, ⟨nd, rfl⟩⟩; refine ⟨_, rfl, ?_⟩) | ((with_reducible refine gate_callee (f := 11) rfl ?_); refine goesL_ (some 16) rfl rfl Try.func11 (by kernel_rfl) rfl #[.int .i64 t108, .int .i64 a1] rfl (by (try simp only [List.map_toArray, List.map_cons, List.map_nil]); first | done | rfl | (simp only [List.length_drop, List.length_take]; rfl)) ?_; (with_reducible refine (impl_UnpackParam.calls t108 a1 t109 t110 _ A5.out).mono ?_); rintro e w' ⟨rfl, ⟨nd, rfl⟩⟩; refine ⟨_, rfl, ?_⟩) | ((with_reducible refine gate_callee (f := 12) rfl ?_); refine goesL_ (some 23) rfl rfl Try.func12 (by kernel_rfl) rfl #[.int .i64 (Go.bits .and .i64 a0 2147483647), .int .i64 a1] rfl (by (try simp only [List.map_toArray, List.map_cons, List.map_nil]); first | done | rfl | (simp only [List.length_drop, List.length_take]; rfl)) ?_; (with_reducible refine (spec_Or.calls (Go.bits .and .i64 a0 2147483647) a1 t111 _ A6.out).mono ?_); rintro e w' ⟨rfl, ⟨nd, rfl⟩⟩; refine ⟨_, rfl, ?_⟩))
    go_ret
    exact ⟨by first | rfl | (simp; done) | (simp [*]; done), by repeat (first | exact Drawn0.refl _ | apply Drawn0.step)⟩

/-- THE ONE PURE STATEMENT of laws_FnPackParam: yours. -/
def laws_FnPackParam.Pure : Prop := ∀ (a0 : Int) (a1 : Int) (a2 : Bool), (Lit.int .i64 a0).wf = true → (Lit.int .i64 a1).wf = true → laws_FnPackParam.f a0 a1 a2 = some true
theorem laws_FnPackParam.walk (P : laws_FnPackParam.Pure) (a0 : Int) (a1 : Int) (a2 : Bool) (w : World) (w0 : (Lit.int .i64 a0).wf = true) (w1 : (Lit.int .i64 a1).wf = true) :
    Calls Try.prog 4 #[.int .i64 a0, .int .i64 a1, .bool a2] w fun e w' => e = .returned (.bool true) ∧ Below w.heap.size w w' := by
  have h := P a0 a1 a2 w0 w1
  refine (laws_FnPackParam.calls a0 a1 a2 true w h).mono ?_
  rintro e w' ⟨rfl, hd⟩
  exact ⟨rfl, hd.below⟩

end Go.Proofs.Ytinddalpchkllaa.PFnPackParam
