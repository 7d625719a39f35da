-- PRINTED BY print.sh 35421559b90ae4d0a3588c463048766b98c2df88dd9212a6774a882060cdf62d: not written by this session
import Derived.Test.YtinddalpchkllaaPFnUnpackx0
namespace Go.Proofs.Ytinddalpchkllaa.PFnUnpack
open Go.RowKit Go.Proofs.YtinddalpchkllaaW.PrintWords Go.Proofs.YtinddalpchkllaaW.PrintLast Go.Proofs.YtinddalpchkllaaW.PrintMore
attribute [local go_sem] max2_int min2_int max_two min_two max_three min_three max_four min_four   -- for this text's walks alone
set_option linter.unusedVariables false
set_option linter.unusedSimpArgs false

/-! ### xansi_Command: function 35 -/
def xansi_Command.f (a0 : Int) (a1 : Int) (a2 : Int) : Option (Int) := some (Go.bits .or .i64 (Go.bits .or .i64 (wrap64 (a2)) (wrap64 ((wrap64 (a0)) * 256))) (wrap64 ((wrap64 (a1)) * 65536)))
set_option maxHeartbeats 8000000 in
set_option maxRecDepth 100000 in
theorem xansi_Command.calls (a0 : Int) (a1 : Int) (a2 : Int) (r : Int) (w : World) (h : xansi_Command.f a0 a1 a2 = some r) :
    Calls Try.prog 35 #[.int .u8 a0, .int .u8 a1, .int .u8 a2] w fun e w' => e = .returned (.int .i64 r) ∧ Drawn0 w w' := by
  have H : (some (Go.bits .or .i64 (Go.bits .or .i64 (wrap64 (a2)) (wrap64 ((wrap64 (a0)) * 256))) (wrap64 ((wrap64 (a1)) * 65536)))) = some r := h
  clear h
  obtain rfl := Option.some.inj H
  go_enter Try.func35, Try.ntmps35
  go_wp2
  go_ret
  exact ⟨by first | rfl | (simp; done) | (simp [*]; done), by repeat (first | exact Drawn0.refl _ | apply Drawn0.step)⟩

/-! ### impl_Pack: function 17 -/
def impl_Pack.f (a0 : Int) (a1 : Int) (a2 : Int) : Option (Int) := (xansi_Command.f a0 a1 a2).bind fun t101 => (some t101)
set_option maxHeartbeats 8000000 in
set_option maxRecDepth 100000 in
theorem impl_Pack.calls (a0 : Int) (a1 : Int) (a2 : Int) (r : Int) (w : World) (h : impl_Pack.f a0 a1 a2 = some r) :
    Calls Try.prog 17 #[.int .u8 a0, .int .u8 a1, .int .u8 a2] w fun e w' => e = .returned (.int .i64 r) ∧ Drawn0 w w' := by
  have H : ((xansi_Command.f a0 a1 a2).bind fun t101 => (some t101)) = some r := h
  clear h
  replace H := Option.bind_eq_some_iff.mp H
  obtain ⟨t101, A40, H⟩ := H
  replace H : (some t101) = some r := H
  have A4 := Aside0.mk A40
  clear A40
  obtain rfl := Option.some.inj H
  go_enter Try.func17, Try.ntmps17
  go_wp2_with (first | ((with_reducible refine gate_callee (f := 35) rfl ?_); refine goesL_ (some 10) rfl rfl Try.func35 (by kernel_rfl) rfl #[.int .u8 a0, .int .u8 a1, .int .u8 a2] rfl (by (try simp only [List.map_toArray, List.map_cons, List.map_nil]); first | done | rfl | (simp only [List.length_drop, List.length_take]; rfl)) ?_; (with_reducible refine (xansi_Command.calls a0 a1 a2 t101 _ A4.out).mono ?_); rintro e w' ⟨rfl, ⟨nd, rfl⟩⟩; refine ⟨_, rfl, ?_⟩))
  go_ret
  exact ⟨by first | rfl | (simp; done) | (simp [*]; done), by repeat (first | exact Drawn0.refl _ | apply Drawn0.step)⟩

/-! ### laws_packAwake: function 14 -/
def laws_packAwake.f  : Option (Bool) := (impl_Pack.f 63 32 104).bind fun t102 => (some (t102 == 2113384))
set_option maxHeartbeats 8000000 in
set_option maxRecDepth 100000 in
theorem laws_packAwake.calls  (r : Bool) (w : World) (h : laws_packAwake.f  = some r) :
    Calls Try.prog 14 #[] w fun e w' => e = .returned (.bool r) ∧ Drawn0 w w' := by
  have H : ((impl_Pack.f 63 32 104).bind fun t102 => (some (t102 == 2113384))) = some r := h
  clear h
  replace H := Option.bind_eq_some_iff.mp H
  obtain ⟨t102, A10, H⟩ := H
  replace H : (some (t102 == 2113384)) = some r := H
  have A1 := Aside0.mk A10
  clear A10
  obtain rfl := Option.some.inj H
  go_enter Try.func14, Try.ntmps14
  go_wp2_with (first | ((with_reducible refine gate_callee (f := 17) rfl ?_); refine goesL_ (some 1) rfl rfl Try.func17 (by kernel_rfl) rfl #[.int .u8 63, .int .u8 32, .int .u8 104] rfl (by (try simp only [List.map_toArray, List.map_cons, List.map_nil]); first | done | rfl | (simp only [List.length_drop, List.length_take]; rfl)) ?_; (with_reducible refine (impl_Pack.calls 63 32 104 t102 _ A1.out).mono ?_); rintro e w' ⟨rfl, ⟨nd, rfl⟩⟩; refine ⟨_, rfl, ?_⟩))
  go_ret
  exact ⟨by first | rfl | (simp; done) | (simp [*]; done), by repeat (first | exact Drawn0.refl _ | apply Drawn0.step)⟩

/-! ### parser_Prefix: function 39 -/
def parser_Prefix.f (a0 : Int) : Option (Int) := some (Go.bits .and .i64 (a0 / 256) 255)
set_option maxHeartbeats 8000000 in
set_option maxRecDepth 100000 in
theorem parser_Prefix.calls (a0 : Int) (r : Int) (w : World) (h : parser_Prefix.f a0 = some r) :
    Calls Try.prog 39 #[.int .i64 a0] w fun e w' => e = .returned (.int .i64 r) ∧ Drawn0 w w' := by
  have H : (some (Go.bits .and .i64 (a0 / 256) 255)) = some r := h
  clear h
  obtain rfl := Option.some.inj H
  go_enter Try.func39, Try.ntmps39
  go_wp2
  go_ret
  exact ⟨by first | rfl | (simp; done) | (simp [*]; done), by repeat (first | exact Drawn0.refl _ | apply Drawn0.step)⟩

/-! ### xansi_Cmd_Prefix: function 36 -/
def xansi_Cmd_Prefix.f (a0 : Int) : Option (Int) := (parser_Prefix.f a0).bind fun t103 => (some ((t103) % 256))
set_option maxHeartbeats 8000000 in
set_option maxRecDepth 100000 in
theorem xansi_Cmd_Prefix.calls (a0 : Int) (r : Int) (w : World) (h : xansi_Cmd_Prefix.f a0 = some r) :
    Calls Try.prog 36 #[.int .i64 a0] w fun e w' => e = .returned (.int .u8 r) ∧ Drawn0 w w' := by
  have H : ((parser_Prefix.f a0).bind fun t103 => (some ((t103) % 256))) = some r := h
  clear h
  replace H := Option.bind_eq_some_iff.mp H
  obtain ⟨t103, A20, H⟩ := H
  replace H : (some ((t103) % 256)) = some r := H
  have A2 := Aside0.mk A20
  clear A20
  obtain rfl := Option.some.inj H
  go_enter Try.func36, Try.ntmps36
  go_wp2_with (first | ((with_reducible refine gate_callee (f := 39) rfl ?_); refine goesL_ (some 4) rfl rfl Try.func39 (by kernel_rfl) rfl #[.int .i64 a0] rfl (by (try simp only [List.map_toArray, List.map_cons, List.map_nil]); first | done | rfl | (simp only [List.length_drop, List.length_take]; rfl)) ?_; (with_reducible refine (parser_Prefix.calls a0 t103 _ A2.out).mono ?_); rintro e w' ⟨rfl, ⟨nd, rfl⟩⟩; refine ⟨_, rfl, ?_⟩))
  go_ret
  exact ⟨by first | rfl | (simp; done) | (simp [*]; done), by repeat (first | exact Drawn0.refl _ | apply Drawn0.step)⟩

/-! ### parser_Intermediate: function 40 -/
def parser_Intermediate.f (a0 : Int) : Option (Int) := some (Go.bits .and .i64 (a0 / 65536) 255)
set_option maxHeartbeats 8000000 in
set_option maxRecDepth 100000 in
theorem parser_Intermediate.calls (a0 : Int) (r : Int) (w : World) (h : parser_Intermediate.f a0 = some r) :
    Calls Try.prog 40 #[.int .i64 a0] w fun e w' => e = .returned (.int .i64 r) ∧ Drawn0 w w' := by
  have H : (some (Go.bits .and .i64 (a0 / 65536) 255)) = some r := h
  clear h
  obtain rfl := Option.some.inj H
  go_enter Try.func40, Try.ntmps40
  go_wp2
  go_ret
  exact ⟨by first | rfl | (simp; done) | (simp [*]; done), by repeat (first | exact Drawn0.refl _ | apply Drawn0.step)⟩

/-! ### xansi_Cmd_Intermediate: function 37 -/
def xansi_Cmd_Intermediate.f (a0 : Int) : Option (Int) := (parser_Intermediate.f a0).bind fun t104 => (some ((t104) % 256))
set_option maxHeartbeats 8000000 in
set_option maxRecDepth 100000 in
theorem xansi_Cmd_Intermediate.calls (a0 : Int) (r : Int) (w : World) (h : xansi_Cmd_Intermediate.f a0 = some r) :
    Calls Try.prog 37 #[.int .i64 a0] w fun e w' => e = .returned (.int .u8 r) ∧ Drawn0 w w' := by
  have H : ((parser_Intermediate.f a0).bind fun t104 => (some ((t104) % 256))) = some r := h
  clear h
  replace H := Option.bind_eq_some_iff.mp H
  obtain ⟨t104, A20, H⟩ := H
  replace H : (some ((t104) % 256)) = some r := H
  have A2 := Aside0.mk A20
  clear A20
  obtain rfl := Option.some.inj H
  go_enter Try.func37, Try.ntmps37
  go_wp2_with (first | ((with_reducible refine gate_callee (f := 40) rfl ?_); refine goesL_ (some 4) rfl rfl Try.func40 (by kernel_rfl) rfl #[.int .i64 a0] rfl (by (try simp only [List.map_toArray, List.map_cons, List.map_nil]); first | done | rfl | (simp only [List.length_drop, List.length_take]; rfl)) ?_; (with_reducible refine (parser_Intermediate.calls a0 t104 _ A2.out).mono ?_); rintro e w' ⟨rfl, ⟨nd, rfl⟩⟩; refine ⟨_, rfl, ?_⟩))
  go_ret
  exact ⟨by first | rfl | (simp; done) | (simp [*]; done), by repeat (first | exact Drawn0.refl _ | apply Drawn0.step)⟩

/-! ### parser_Command: function 41 -/
def parser_Command.f (a0 : Int) : Option (Int) := some (Go.bits .and .i64 a0 255)
set_option maxHeartbeats 8000000 in
set_option maxRecDepth 100000 in
theorem parser_Command.calls (a0 : Int) (r : Int) (w : World) (h : parser_Command.f a0 = some r) :
    Calls Try.prog 41 #[.int .i64 a0] w fun e w' => e = .returned (.int .i64 r) ∧ Drawn0 w w' := by
  have H : (some (Go.bits .and .i64 a0 255)) = some r := h
  clear h
  obtain rfl := Option.some.inj H
  go_enter Try.func41, Try.ntmps41
  go_wp2
  go_ret
  exact ⟨by first | rfl | (simp; done) | (simp [*]; done), by repeat (first | exact Drawn0.refl _ | apply Drawn0.step)⟩

/-! ### xansi_Cmd_Final: function 38 -/
def xansi_Cmd_Final.f (a0 : Int) : Option (Int) := (parser_Command.f a0).bind fun t105 => (some ((t105) % 256))
set_option maxHeartbeats 8000000 in
set_option maxRecDepth 100000 in
theorem xansi_Cmd_Final.calls (a0 : Int) (r : Int) (w : World) (h : xansi_Cmd_Final.f a0 = some r) :
    Calls Try.prog 38 #[.int .i64 a0] w fun e w' => e = .returned (.int .u8 r) ∧ Drawn0 w w' := by
  have H : ((parser_Command.f a0).bind fun t105 => (some ((t105) % 256))) = some r := h
  clear h
  replace H := Option.bind_eq_some_iff.mp H
  obtain ⟨t105, A20, H⟩ := H
  replace H : (some ((t105) % 256)) = some r := H
  have A2 := Aside0.mk A20
  clear A20
  obtain rfl := Option.some.inj H
  go_enter Try.func38, Try.ntmps38
  go_wp2_with (first | ((with_reducible refine gate_callee (f := 41) rfl ?_); refine goesL_ (some 4) rfl rfl Try.func41 (by kernel_rfl) rfl #[.int .i64 a0] rfl (by (try simp only [List.map_toArray, List.map_cons, List.map_nil]); first | done | rfl | (simp only [List.length_drop, List.length_take]; rfl)) ?_; (with_reducible refine (parser_Command.calls a0 t105 _ A2.out).mono ?_); rintro e w' ⟨rfl, ⟨nd, rfl⟩⟩; refine ⟨_, rfl, ?_⟩))
  go_ret
  exact ⟨by first | rfl | (simp; done) | (simp [*]; done), by repeat (first | exact Drawn0.refl _ | apply Drawn0.step)⟩

/-! ### impl_Unpack: function 18 -/
def impl_Unpack.f (a0 : Int) : Option (Int × Int × Int) := (xansi_Cmd_Prefix.f a0).bind fun t106 => ((xansi_Cmd_Intermediate.f a0).bind fun t107 => ((xansi_Cmd_Final.f a0).bind fun t108 => (some (t106, t107, t108))))
set_option maxHeartbeats 8000000 in
set_option maxRecDepth 100000 in
theorem impl_Unpack.calls (a0 : Int) (r1 : Int) (r2 : Int) (r3 : Int) (w : World) (h : impl_Unpack.f a0 = some (r1, r2, r3)) :
    Calls Try.prog 18 #[.int .i64 a0] w fun e w' => e = .returned (.tuple #[.int .u8 r1, .int .u8 r2, .int .u8 r3]) ∧ Drawn0 w w' := by
  have H : ((xansi_Cmd_Prefix.f a0).bind fun t106 => ((xansi_Cmd_Intermediate.f a0).bind fun t107 => ((xansi_Cmd_Final.f a0).bind fun t108 => (some (t106, t107, t108))))) = some (r1, r2, r3) := h
  clear h
  replace H := Option.bind_eq_some_iff.mp H
  obtain ⟨t106, A20, H⟩ := H
  replace H : ((xansi_Cmd_Intermediate.f a0).bind fun t107 => ((xansi_Cmd_Final.f a0).bind fun t108 => (some (t106, t107, t108)))) = some (r1, r2, r3) := H
  have A2 := Aside0.mk A20
  clear A20
  replace H := Option.bind_eq_some_iff.mp H
  obtain ⟨t107, A30, H⟩ := H
  replace H : ((xansi_Cmd_Final.f a0).bind fun t108 => (some (t106, t107, t108))) = some (r1, r2, r3) := H
  have A3 := Aside0.mk A30
  clear A30
  replace H := Option.bind_eq_some_iff.mp H
  obtain ⟨t108, A40, H⟩ := H
  replace H : (some (t106, t107, t108)) = some (r1, r2, r3) := H
  have A4 := Aside0.mk A40
  clear A40
  simp only [Option.some.injEq, Prod.mk.injEq] at H
  obtain ⟨rfl, rfl, rfl⟩ := H
  go_enter Try.func18, Try.ntmps18
  go_wp2_with (first | ((with_reducible refine gate_callee (f := 36) rfl ?_); refine goesL_ (some 8) rfl rfl Try.func36 (by kernel_rfl) rfl #[.int .i64 a0] rfl (by (try simp only [List.map_toArray, List.map_cons, List.map_nil]); first | done | rfl | (simp only [List.length_drop, List.length_take]; rfl)) ?_; (with_reducible refine (xansi_Cmd_Prefix.calls a0 t106 _ A2.out).mono ?_); rintro e w' ⟨rfl, ⟨nd, rfl⟩⟩; refine ⟨_, rfl, ?_⟩) | ((with_reducible refine gate_callee (f := 37) rfl ?_); refine goesL_ (some 10) rfl rfl Try.func37 (by kernel_rfl) rfl #[.int .i64 a0] rfl (by (try simp only [List.map_toArray, List.map_cons, List.map_nil]); first | done | rfl | (simp only [List.length_drop, List.length_take]; rfl)) ?_; (with_reducible refine (xansi_Cmd_Intermediate.calls a0 t107 _ A3.out).mono ?_); rintro e w' ⟨rfl, ⟨nd, rfl⟩⟩; refine ⟨_, rfl, ?_⟩) | ((with_reducible refine gate_callee (f := 38) rfl ?_); refine goesL_ (some 12) rfl rfl Try.func38 (by kernel_rfl) rfl #[.int .i64 a0] rfl (by (try simp only [List.map_toArray, List.map_cons, List.map_nil]); first | done | rfl | (simp only [List.length_drop, List.length_take]; rfl)) ?_; (with_reducible refine (xansi_Cmd_Final.calls a0 t108 _ A4.out).mono ?_); rintro e w' ⟨rfl, ⟨nd, rfl⟩⟩; refine ⟨_, rfl, ?_⟩))
  go_ret3
  exact ⟨by first | rfl | (simp; done) | (simp [*]; done), by repeat (first | exact Drawn0.refl _ | apply Drawn0.step)⟩

/-! ### impl_Packed: function 19 -/
def impl_Packed.f (a0 : Int) : Option (Int × Int × Int) := (parser_Prefix.f a0).bind fun t109 => ((parser_Intermediate.f a0).bind fun t110 => ((parser_Command.f a0).bind fun t111 => (some (t109, t110, t111))))
set_option maxHeartbeats 8000000 in
set_option maxRecDepth 100000 in
theorem impl_Packed.calls (a0 : Int) (r1 : Int) (r2 : Int) (r3 : Int) (w : World) (h : impl_Packed.f a0 = some (r1, r2, r3)) :
    Calls Try.prog 19 #[.int .i64 a0] w fun e w' => e = .returned (.tuple #[.int .i64 r1, .int .i64 r2, .int .i64 r3]) ∧ Drawn0 w w' := by
  have H : ((parser_Prefix.f a0).bind fun t109 => ((parser_Intermediate.f a0).bind fun t110 => ((parser_Command.f a0).bind fun t111 => (some (t109, t110, t111))))) = some (r1, r2, r3) := h
  clear h
  replace H := Option.bind_eq_some_iff.mp H
  obtain ⟨t109, A20, H⟩ := H
  replace H : ((parser_Intermediate.f a0).bind fun t110 => ((parser_Command.f a0).bind fun t111 => (some (t109, t110, t111)))) = some (r1, r2, r3) := H
  have A2 := Aside0.mk A20
  clear A20
  replace H := Option.bind_eq_some_iff.mp H
  obtain ⟨t110, A30, H⟩ := H
  replace H : ((parser_Command.f a0).bind fun t111 => (some (t109, t110, t111))) = some (r1, r2, r3) := H
  have A3 := Aside0.mk A30
  clear A30
  replace H := Option.bind_eq_some_iff.mp H
  obtain ⟨t111, A40, H⟩ := H
  replace H : (some (t109, t110, t111)) = some (r1, r2, r3) := H
  have A4 := Aside0.mk A40
  clear A40
  simp only [Option.some.injEq, Prod.mk.injEq] at H
  obtain ⟨rfl, rfl, rfl⟩ := H
  go_enter Try.func19, Try.ntmps19
  go_wp2_with (first | ((with_reducible refine gate_callee (f := 39) rfl ?_); refine goesL_ (some 6) rfl rfl Try.func39 (by kernel_rfl) rfl #[.int .i64 a0] rfl (by (try simp only [List.map_toArray, List.map_cons, List.map_nil]); first | done | rfl | (simp only [List.length_drop, List.length_take]; rfl)) ?_; (with_reducible refine (parser_Prefix.calls a0 t109 _ A2.out).mono ?_); rintro e w' ⟨rfl, ⟨nd, rfl⟩⟩; refine ⟨_, rfl, ?_⟩) | ((with_reducible refine gate_callee (f := 40) rfl ?_); refine goesL_ (some 8) rfl rfl Try.func40 (by kernel_rfl) rfl #[.int .i64 a0] rfl (by (try simp only [List.map_toArray, List.map_cons, List.map_nil]); first | done | rfl | (simp only [List.length_drop, List.length_take]; rfl)) ?_; (with_reducible refine (parser_Intermediate.calls a0 t110 _ A3.out).mono ?_); rintro e w' ⟨rfl, ⟨nd, rfl⟩⟩; refine ⟨_, rfl, ?_⟩) | ((with_reducible refine gate_callee (f := 41) rfl ?_); refine goesL_ (some 10) rfl rfl Try.func41 (by kernel_rfl) rfl #[.int .i64 a0] rfl (by (try simp only [List.map_toArray, List.map_cons, List.map_nil]); first | done | rfl | (simp only [List.length_drop, List.length_take]; rfl)) ?_; (with_reducible refine (parser_Command.calls a0 t111 _ A4.out).mono ?_); rintro e w' ⟨rfl, ⟨nd, rfl⟩⟩; refine ⟨_, rfl, ?_⟩))
  go_ret3
  exact ⟨by first | rfl | (simp; done) | (simp [*]; done), by repeat (first | exact Drawn0.refl _ | apply Drawn0.step)⟩

/-! ### laws_FnUnpack: function 6 -/
def laws_FnUnpack.f (a0 : Int) : Option (Bool) := (impl_Unpack.f a0).bind fun bt112 => ((impl_Packed.f a0).bind fun bt115 => (if bt112.2.2 = ((a0) % 256) then (if bt112.1 = ((a0 / 256) % 256) then (if bt112.2.1 = ((a0 / 65536) % 256) then (if bt115.1 = (wrap64 (bt112.1)) then (if bt115.2.1 = (wrap64 (bt112.2.1)) then (if bt115.2.2 = (wrap64 (bt112.2.2)) then ((laws_packAwake.f).bind fun t118 => (some t118)) else (some false)) else (some false)) else (some false)) else (some false)) else (some false)) else (some false)))
set_option maxHeartbeats 8000000 in
set_option maxRecDepth 100000 in
theorem laws_FnUnpack.calls (a0 : Int) (r : Bool) (w : World) (h : laws_FnUnpack.f a0 = some r) :
    Calls Try.prog 6 #[.int .i64 a0] w fun e w' => e = .returned (.bool r) ∧ Drawn0 w w' := by
  have H : ((impl_Unpack.f a0).bind fun bt112 => ((impl_Packed.f a0).bind fun bt115 => (if bt112.2.2 = ((a0) % 256) then (if bt112.1 = ((a0 / 256) % 256) then (if bt112.2.1 = ((a0 / 65536) % 256) then (if bt115.1 = (wrap64 (bt112.1)) then (if bt115.2.1 = (wrap64 (bt112.2.1)) then (if bt115.2.2 = (wrap64 (bt112.2.2)) then ((laws_packAwake.f).bind fun t118 => (some t118)) else (some false)) else (some false)) else (some false)) else (some false)) else (some false)) else (some false)))) = some r := h
  clear h
  replace H := Option.bind_eq_some_iff.mp H
  obtain ⟨⟨t112, t113, t114⟩, A20, H⟩ := H
  replace H : ((impl_Packed.f a0).bind fun bt115 => (if t114 = ((a0) % 256) then (if t112 = ((a0 / 256) % 256) then (if t113 = ((a0 / 65536) % 256) then (if bt115.1 = (wrap64 (t112)) then (if bt115.2.1 = (wrap64 (t113)) then (if bt115.2.2 = (wrap64 (t114)) then ((laws_packAwake.f).bind fun t118 => (some t118)) else (some false)) else (some false)) else (some false)) else (some false)) else (some false)) else (some false))) = some r := H
  have A2 := Aside0.mk A20
  clear A20
  replace H := Option.bind_eq_some_iff.mp H
  obtain ⟨⟨t115, t116, t117⟩, A30, H⟩ := H
  replace H : (if t114 = ((a0) % 256) then (if t112 = ((a0 / 256) % 256) then (if t113 = ((a0 / 65536) % 256) then (if t115 = (wrap64 (t112)) then (if t116 = (wrap64 (t113)) then (if t117 = (wrap64 (t114)) then ((laws_packAwake.f).bind fun t118 => (some t118)) else (some false)) else (some false)) else (some false)) else (some false)) else (some false)) else (some false)) = some r := H
  have A3 := Aside0.mk A30
  clear A30
  by_cases c4 : t114 = ((a0) % 256)
  · rw [if_pos c4] at H
    have c4b0 : (t114 == ((a0) % 256)) = true := beq_iff_eq.mpr c4
    have c4b1 : (t114 != ((a0) % 256)) = false := bne_eq_false_iff_eq.mpr c4
    clear c4
    by_cases c5 : t112 = ((a0 / 256) % 256)
    · rw [if_pos c5] at H
      have c5b0 : (t112 == ((a0 / 256) % 256)) = true := beq_iff_eq.mpr c5
      have c5b1 : (t112 != ((a0 / 256) % 256)) = false := bne_eq_false_iff_eq.mpr c5
      clear c5
      by_cases c6 : t113 = ((a0 / 65536) % 256)
      · rw [if_pos c6] at H
        have c6b0 : (t113 == ((a0 / 65536) % 256)) = true := beq_iff_eq.mpr c6
        have c6b1 : (t113 != ((a0 / 65536) % 256)) = false := bne_eq_false_iff_eq.mpr c6
        clear c6
        by_cases c7 : t115 = (wrap64 (t112))
        · rw [if_pos c7] at H
          have c7b0 : (t115 == (wrap64 (t112))) = true := beq_iff_eq.mpr c7
          have c7b1 : (t115 != (wrap64 (t112))) = false := bne_eq_false_iff_eq.mpr c7
          clear c7
          by_cases c8 : t116 = (wrap64 (t113))
          · rw [if_pos c8] at H
            have c8b0 : (t116 == (wrap64 (t113))) = true := beq_iff_eq.mpr c8
            have c8b1 : (t116 != (wrap64 (t113))) = false := bne_eq_false_iff_eq.mpr c8
            clear c8
            by_cases c9 : t117 = (wrap64 (t114))
            · rw [if_pos c9] at H
              have c9b0 : (t117 == (wrap64 (t114))) = true := beq_iff_eq.mpr c9
              have c9b1 : (t117 != (wrap64 (t114))) = false := bne_eq_false_iff_eq.mpr c9
              clear c9
              replace H := Option.bind_eq_some_iff.mp H
              obtain ⟨t118, A100, H⟩ := H
              replace H : (some t118) = some r := H
              have A10 := Aside0.mk A100
              clear A100
              obtain rfl := Option.some.inj H
              go_enter Try.func6, Try.ntmps6
              go_wp2_with (first | ((with_reducible refine gate_callee (f := 18) rfl ?_); refine goesL_ (some 11) rfl rfl Try.func18 (by kernel_rfl) rfl #[.int .i64 a0] rfl (by (try simp only [List.map_toArray, List.map_cons, List.map_nil]); first | done | rfl | (simp only [List.length_drop, List.length_take]; rfl)) ?_; (with_reducible refine (impl_Unpack.calls a0 t112 t113 t114 _ A2.out).mono ?_); rintro e w' ⟨rfl, ⟨nd, rfl⟩⟩; refine ⟨_, rfl, ?_⟩) | ((with_reducible refine gate_callee (f := 19) rfl ?_); refine goesL_ (some 17) rfl rfl Try.func19 (by kernel_rfl) rfl #[.int .i64 a0] rfl (by (try simp only [List.map_toArray, List.map_cons, List.map_nil]); first | done | rfl | (simp only [List.length_drop, List.length_take]; rfl)) ?_; (with_reducible refine (impl_Packed.calls a0 t115 t116 t117 _ A3.out).mono ?_); rintro e w' ⟨rfl, ⟨nd, rfl⟩⟩; refine ⟨_, rfl, ?_⟩) | (go_at_call 14; (with_reducible refine (laws_packAwake.calls  t118 _ A10.out).mono ?_); rintro e w' ⟨rfl, ⟨nd, rfl⟩⟩))
              go_ret
              exact ⟨by first | rfl | (simp; done) | (simp [*]; done), by repeat (first | exact Drawn0.refl _ | apply Drawn0.step)⟩
            · rw [if_neg c9] at H
              have c9b0 : (t117 == (wrap64 (t114))) = false := beq_eq_false_iff_ne.mpr c9
              have c9b1 : (t117 != (wrap64 (t114))) = true := bne_iff_ne.mpr c9
              obtain rfl := Option.some.inj H
              go_enter Try.func6, Try.ntmps6
              go_wp2_with (first | ((with_reducible refine gate_callee (f := 18) rfl ?_); refine goesL_ (some 11) rfl rfl Try.func18 (by kernel_rfl) rfl #[.int .i64 a0] rfl (by (try simp only [List.map_toArray, List.map_cons, List.map_nil]); first | done | rfl | (simp only [List.length_drop, List.length_take]; rfl)) ?_; (with_reducible refine (impl_Unpack.calls a0 t112 t113 t114 _ A2.out).mono ?_); rintro e w' ⟨rfl, ⟨nd, rfl⟩⟩; refine ⟨_, rfl, ?_⟩) | ((with_reducible refine gate_callee (f := 19) rfl ?_); refine goesL_ (some 17) rfl rfl Try.func19 (by kernel_rfl) rfl #[.int .i64 a0] rfl (by (try simp only [List.map_toArray, List.map_cons, List.map_nil]); first | done | rfl | (simp only [List.length_drop, List.length_take]; rfl)) ?_; (with_reducible refine (impl_Packed.calls a0 t115 t116 t117 _ A3.out).mono ?_); rintro e w' ⟨rfl, ⟨nd, rfl⟩⟩; refine ⟨_, rfl, ?_⟩))
              go_ret
              exact ⟨by first | rfl | (simp; done) | (simp [*]; done), by repeat (first | exact Drawn0.refl _ | apply Drawn0.step)⟩
          · rw [if_neg c8] at H
            have c8b0 : (t116 == (wrap64 (t113))) = false := beq_eq_false_iff_ne.mpr c8
            have c8b1 : (t116 != (wrap64 (t113))) = true := bne_iff_ne.mpr c8
            obtain rfl := Option.some.inj H
            go_enter Try.func6, Try.ntmps6
            go_wp2_with (first | ((with_reducible refine gate_callee (f := 18) rfl ?_); refine goesL_ (some 11) rfl rfl Try.func18 (by kernel_rfl) rfl #[.int .i64 a0] rfl (by (try simp only [List.map_toArray, List.map_cons, List.map_nil]); first | done | rfl | (simp only [List.length_drop, List.length_take]; rfl)) ?_; (with_reducible refine (impl_Unpack.calls a0 t112 t113 t114 _ A2.out).mono ?_); rintro e w' ⟨rfl, ⟨nd, rfl⟩⟩; refine ⟨_, rfl, ?_⟩) | ((with_reducible refine gate_callee (f := 19) rfl ?_); refine goesL_ (some 17) rfl rfl Try.func19 (by kernel_rfl) rfl #[.int .i64 a0] rfl (by (try simp only [List.map_toArray, List.map_cons, List.map_nil]); first | done | rfl | (simp only [List.length_drop, List.length_take]; rfl)) ?_; (with_reducible refine (impl_Packed.calls a0 t115 t116 t117 _ A3.out).mono ?_); rintro e w' ⟨rfl, ⟨nd, rfl⟩⟩; refine ⟨_, rfl, ?_⟩))
            go_ret
            exact ⟨by first | rfl | (simp; done) | (simp [*]; done), by repeat (first | exact Drawn0.refl _ | apply Drawn0.step)⟩
        · rw [if_neg c7] at H
          have c7b0 : (t115 == (wrap64 (t112))) = false := beq_eq_false_iff_ne.mpr c7
          have c7b1 : (t115 != (wrap64 (t112))) = true := bne_iff_ne.mpr c7
          obtain rfl := Option.some.inj H
          go_enter Try.func6, Try.ntmps6
          go_wp2_with (first | ((with_reducible refine gate_callee (f := 18) rfl ?_); refine goesL_ (some 11) rfl rfl Try.func18 (by kernel_rfl) rfl #[.int .i64 a0] rfl (by (try simp only [List.map_toArray, List.map_cons, List.map_nil]); first | done | rfl | (simp only [List.length_drop, List.length_take]; rfl)) ?_; (with_reducible refine (impl_Unpack.calls a0 t112 t113 t114 _ A2.out).mono ?_); rintro e w' ⟨rfl, ⟨nd, rfl⟩⟩; refine ⟨_, rfl, ?_⟩) | ((with_reducible refine gate_callee (f := 19) rfl ?_); refine goesL_ (some 17) rfl rfl Try.func19 (by kernel_rfl) rfl #[.int .i64 a0] rfl (by (try simp only [List.map_toArray, List.map_cons, List.map_nil]); first | done | rfl | (simp only [List.length_drop, List.length_take]; rfl)) ?_; (with_reducible refine (impl_Packed.calls a0 t115 t116 t117 _ A3.out).mono ?_); rintro e w' ⟨rfl, ⟨nd, rfl⟩⟩; refine ⟨_, rfl, ?_⟩))
          go_ret
          exact ⟨by first | rfl | (simp; done) | (simp [*]; done), by repeat (first | exact Drawn0.refl _ | apply Drawn0.step)⟩
      · rw [if_neg c6] at H
        have c6b0 : (t113 == ((a0 / 65536) % 256)) = false := beq_eq_false_iff_ne.mpr c6
        have c6b1 : (t113 != ((a0 / 65536) % 256)) = true := bne_iff_ne.mpr c6
        obtain rfl := Option.some.inj H
        go_enter Try.func6, Try.ntmps6
        go_wp2_with (first | ((with_reducible refine gate_callee (f := 18) rfl ?_); refine goesL_ (some 11) rfl rfl Try.func18 (by kernel_rfl) rfl #[.int .i64 a0] rfl (by (try simp only [List.map_toArray, List.map_cons, List.map_nil]); first | done | rfl | (simp only [List.length_drop, List.length_take]; rfl)) ?_; (with_reducible refine (impl_Unpack.calls a0 t112 t113 t114 _ A2.out).mono ?_); rintro e w' ⟨rfl, ⟨nd, rfl⟩⟩; refine ⟨_, rfl, ?_⟩) | ((with_reducible refine gate_callee (f := 19) rfl ?_); refine goesL_ (some 17) rfl rfl Try.func19 (by kernel_rfl) rfl #[.int .i64 a0] rfl (by (try simp only [List.map_toArray, List.map_cons, List.map_nil]); first | done | rfl | (simp only [List.length_drop, List.length_take]; rfl)) ?_; (with_reducible refine (impl_Packed.calls a0 t115 t116 t117 _ A3.out).mono ?_); rintro e w' ⟨rfl, ⟨nd, rfl⟩⟩; refine ⟨_, rfl, ?_⟩))
        go_ret
        exact ⟨by first | rfl | (simp; done) | (simp [*]; done), by repeat (first | exact Drawn0.refl _ | apply Drawn0.step)⟩
    · rw [if_neg c5] at H
      have c5b0 : (t112 == ((a0 / 256) % 256)) = false := beq_eq_false_iff_ne.mpr c5
      have c5b1 : (t112 != ((a0 / 256) % 256)) = true := bne_iff_ne.mpr c5
      obtain rfl := Option.some.inj H
      go_enter Try.func6, Try.ntmps6
      go_wp2_with (first | ((with_reducible refine gate_callee (f := 18) rfl ?_); refine goesL_ (some 11) rfl rfl Try.func18 (by kernel_rfl) rfl #[.int .i64 a0] rfl (by (try simp only [List.map_toArray, List.map_cons, List.map_nil]); first | done | rfl | (simp only [List.length_drop, List.length_take]; rfl)) ?_; (with_reducible refine (impl_Unpack.calls a0 t112 t113 t114 _ A2.out).mono ?_); rintro e w' ⟨rfl, ⟨nd, rfl⟩⟩; refine ⟨_, rfl, ?_⟩) | ((with_reducible refine gate_callee (f := 19) rfl ?_); refine goesL_ (some 17) rfl rfl Try.func19 (by kernel_rfl) rfl #[.int .i64 a0] rfl (by (try simp only [List.map_toArray, List.map_cons, List.map_nil]); first | done | rfl | (simp only [List.length_drop, List.length_take]; rfl)) ?_; (with_reducible refine (impl_Packed.calls a0 t115 t116 t117 _ A3.out).mono ?_); rintro e w' ⟨rfl, ⟨nd, rfl⟩⟩; refine ⟨_, rfl, ?_⟩))
      go_ret
      exact ⟨by first | rfl | (simp; done) | (simp [*]; done), by repeat (first | exact Drawn0.refl _ | apply Drawn0.step)⟩
  · rw [if_neg c4] at H
    have c4b0 : (t114 == ((a0) % 256)) = false := beq_eq_false_iff_ne.mpr c4
    have c4b1 : (t114 != ((a0) % 256)) = true := bne_iff_ne.mpr c4
    obtain rfl := Option.some.inj H
    go_enter Try.func6, Try.ntmps6
    go_wp2_with (first | ((with_reducible refine gate_callee (f := 18) rfl ?_); refine goesL_ (some 11) rfl rfl Try.func18 (by kernel_rfl) rfl #[.int .i64 a0] rfl (by (try simp only [List.map_toArray, List.map_cons, List.map_nil]); first | done | rfl | (simp only [List.length_drop, List.length_take]; rfl)) ?_; (with_reducible refine (impl_Unpack.calls a0 t112 t113 t114 _ A2.out).mono ?_); rintro e w' ⟨rfl, ⟨nd, rfl⟩⟩; refine ⟨_, rfl, ?_⟩) | ((with_reducible refine gate_callee (f := 19) rfl ?_); refine goesL_ (some 17) rfl rfl Try.func19 (by kernel_rfl) rfl #[.int .i64 a0] rfl (by (try simp only [List.map_toArray, List.map_cons, List.map_nil]); first | done | rfl | (simp only [List.length_drop, List.length_take]; rfl)) ?_; (with_reducible refine (impl_Packed.calls a0 t115 t116 t117 _ A3.out).mono ?_); rintro e w' ⟨rfl, ⟨nd, rfl⟩⟩; refine ⟨_, rfl, ?_⟩))
    go_ret
    exact ⟨by first | rfl | (simp; done) | (simp [*]; done), by repeat (first | exact Drawn0.refl _ | apply Drawn0.step)⟩

/-- THE ONE PURE STATEMENT of laws_FnUnpack: yours. -/
def laws_FnUnpack.Pure : Prop := ∀ (a0 : Int), (Lit.int .i64 a0).wf = true → laws_FnUnpack.f a0 = some true
theorem laws_FnUnpack.walk (P : laws_FnUnpack.Pure) (a0 : Int) (w : World) (w0 : (Lit.int .i64 a0).wf = true) :
    Calls Try.prog 6 #[.int .i64 a0] w fun e w' => e = .returned (.bool true) ∧ Below w.heap.size w w' := by
  have h := P a0 w0
  refine (laws_FnUnpack.calls a0 true w h).mono ?_
  rintro e w' ⟨rfl, hd⟩
  exact ⟨rfl, hd.below⟩

end Go.Proofs.Ytinddalpchkllaa.PFnUnpack
