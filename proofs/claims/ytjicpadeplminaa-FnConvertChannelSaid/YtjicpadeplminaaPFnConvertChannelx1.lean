-- PRINTED BY print.sh 35421559b90ae4d0a3588c463048766b98c2df88dd9212a6774a882060cdf62d: not written by this session
import Derived.Test.YtjicpadeplminaaPFnConvertChannelx0
namespace Go.Proofs.Ytjicpadeplminaa.PFnConvertChannel
open Go.RowKit Go.Proofs.YtjicpadeplminaaW.PrintWords Go.Proofs.YtjicpadeplminaaW.PrintLast Go.Proofs.YtjicpadeplminaaW.PrintMore
attribute [local go_sem] max2_int min2_int max_two min_two max_three min_three max_four min_four   -- for this text's walks alone
set_option linter.unusedVariables false
set_option linter.unusedSimpArgs false

/-! ### sixel_ConvertChannel: function 15 -/
def sixel_ConvertChannel.f (a0 : Int) : Option (Int) := some (((((a0 + 328) % 4294967296) * 100) % 4294967296) / 65535)
set_option maxHeartbeats 8000000 in
set_option maxRecDepth 100000 in
theorem sixel_ConvertChannel.calls (a0 : Int) (r : Int) (w : World) (h : sixel_ConvertChannel.f a0 = some r) :
    Calls Try.prog 15 #[.int .u32 a0] w fun e w' => e = .returned (.int .u32 r) ∧ Drawn0 w w' := by
  have H : (some (((((a0 + 328) % 4294967296) * 100) % 4294967296) / 65535)) = some r := h
  clear h
  obtain rfl := Option.some.inj H
  go_enter Try.func15, Try.ntmps15
  go_wp2
  go_ret
  exact ⟨by first | rfl | (simp; done) | (simp [*]; done), by repeat (first | exact Drawn0.refl _ | apply Drawn0.step)⟩

/-! ### impl_ConvertChannel: function 7 -/
def impl_ConvertChannel.f (a0 : Int) : Option (Int) := (sixel_ConvertChannel.f a0).bind fun t101 => (some t101)
set_option maxHeartbeats 8000000 in
set_option maxRecDepth 100000 in
theorem impl_ConvertChannel.calls (a0 : Int) (r : Int) (w : World) (h : impl_ConvertChannel.f a0 = some r) :
    Calls Try.prog 7 #[.int .u32 a0] w fun e w' => e = .returned (.int .u32 r) ∧ Drawn0 w w' := by
  have H : ((sixel_ConvertChannel.f a0).bind fun t101 => (some t101)) = some r := h
  clear h
  replace H := Option.bind_eq_some_iff.mp H
  obtain ⟨t101, A20, H⟩ := H
  replace H : (some t101) = some r := H
  have A2 := Aside0.mk A20
  clear A20
  obtain rfl := Option.some.inj H
  go_enter Try.func7, Try.ntmps7
  go_wp2_with (first | ((with_reducible refine gate_callee (f := 15) rfl ?_); refine goesL_ (some 4) rfl rfl Try.func15 (by kernel_rfl) rfl #[.int .u32 a0] rfl (by (try simp only [List.map_toArray, List.map_cons, List.map_nil]); first | done | rfl | (simp only [List.length_drop, List.length_take]; rfl)) ?_; (with_reducible refine (sixel_ConvertChannel.calls a0 t101 _ A2.out).mono ?_); rintro e w' ⟨rfl, ⟨nd, rfl⟩⟩; refine ⟨_, rfl, ?_⟩))
  go_ret
  exact ⟨by first | rfl | (simp; done) | (simp [*]; done), by repeat (first | exact Drawn0.refl _ | apply Drawn0.step)⟩

/-! ### laws_FnConvertChannel: function 3 -/
def laws_FnConvertChannel.j0 : Nat → Int → Int → Bool → Option (Bool)
  | 0, _, _, _ => none
  | k + 1, x0, x1, x12 => if x12 = true then ((impl_ConvertChannel.f 65535).bind fun t102 => (some (t102 == 100))) else ((impl_ConvertChannel.f x0).bind fun t103 => ((impl_ConvertChannel.f x1).bind fun t104 => (if t103 = (((((x0 + 328) % 4294967296) * 100) % 4294967296) / 65535) then (if t103 ≤ 100 then (if x0 > x1 then ((impl_ConvertChannel.f 0).bind fun t105 => (if t105 = 0 then ((impl_ConvertChannel.f 65535).bind fun t106 => (some (t106 == 100))) else (some false))) else (if t103 ≤ t104 then ((impl_ConvertChannel.f 0).bind fun t107 => (if t107 = 0 then ((impl_ConvertChannel.f 65535).bind fun t108 => (some (t108 == 100))) else (some false))) else (some false))) else (some false)) else (some false))))
def laws_FnConvertChannel.f (k : Nat) (a0 : Int) (a1 : Int) : Option (Bool) := if a0 > 65535 then (laws_FnConvertChannel.j0 k a0 a1 true) else (laws_FnConvertChannel.j0 k a0 a1 (decide (a1 > 65535)))
theorem laws_FnConvertChannel.mono_l : ∀ k, (∀ y0 y1 y2, LeO (laws_FnConvertChannel.j0 k y0 y1 y2) (laws_FnConvertChannel.j0 (k + 1) y0 y1 y2))
  | 0 => fun _ _ _ r h => by simp [laws_FnConvertChannel.j0] at h
  | k + 1 => by
    have ih0 := laws_FnConvertChannel.mono_l k
    · intro y0 y1 y2
      unfold laws_FnConvertChannel.j0
      repeat' first
      | (with_reducible exact ih0 _ _ _)
      | (with_reducible exact LeO.refl _)
      | (with_reducible exact LeO.none _)
      | (with_reducible refine LeO.ite ?_ ?_)
      | (with_reducible refine LeO.bind ?_ (fun _ => ?_))
      | exact ih0 _ _ _
      | exact LeO.none _
      | refine LeO.ite ?_ ?_
      | refine LeO.bind ?_ (fun _ => ?_)
theorem laws_FnConvertChannel.mono : ∀ a0 a1 k, LeO (laws_FnConvertChannel.f k a0 a1) (laws_FnConvertChannel.f (k + 1) a0 a1) := by
  intro a0 a1 k
  have ih0 := laws_FnConvertChannel.mono_l k
  unfold laws_FnConvertChannel.f
  repeat' first
      | (with_reducible exact ih0 _ _ _)
      | (with_reducible exact LeO.refl _)
      | (with_reducible exact LeO.none _)
      | (with_reducible refine LeO.ite ?_ ?_)
      | (with_reducible refine LeO.bind ?_ (fun _ => ?_))
      | exact ih0 _ _ _
      | exact LeO.none _
      | refine LeO.ite ?_ ?_
      | refine LeO.bind ?_ (fun _ => ?_)
set_option maxHeartbeats 8000000 in
set_option maxRecDepth 100000 in
theorem laws_FnConvertChannel.calls (k : Nat) (a0 : Int) (a1 : Int) (r : Bool) (w : World) (h : laws_FnConvertChannel.f k a0 a1 = some r) :
    Calls Try.prog 3 #[.int .u32 a0, .int .u32 a1] w fun e w' => e = .returned (.bool r) ∧ Drawn0 w w' := by
  have H : (if a0 > 65535 then (laws_FnConvertChannel.j0 k a0 a1 true) else (laws_FnConvertChannel.j0 k a0 a1 (decide (a1 > 65535)))) = some r := h
  clear h
  have HC3 := Aside0.mk H
  clear H
  go_enter Try.func3, Try.ntmps3
  go_upto_region 1 with (fail)
  go_cut [12] (fun v12 wc => ∃ (kq : Nat) (x12_2 : Bool), v12 = .bool x12_2 ∧ Aside0 (laws_FnConvertChannel.j0 kq a0 a1 x12_2 = some r) ∧ Aside0 (kq ≤ k) ∧ Drawn0 w wc)
  case first =>
    have H := HC3.out
    clear HC3
    by_cases c4 : a0 > 65535
    · rw [if_pos c4] at H
      have c4b0 : decide (65535 < a0) = true := decide_eq_true c4
      clear c4
      (first | rw [c4b0] | (simp only [i64_w, i32_w]; rw [c4b0]) | skip)
      have H' := Aside0.mk H
      clear H
      go_wp2
      go_meet
      case rel => exact ⟨_, (true), (by first | rfl | (simp; done) | (simp [*]; done)), H', ⟨by first | omega | exact Nat.le_refl _⟩, by repeat (first | exact Drawn0.refl _ | apply Drawn0.step)⟩
    · rw [if_neg c4] at H
      have c4b0 : decide (65535 < a0) = false := decide_eq_false c4
      clear c4
      (first | rw [c4b0] | (simp only [i64_w, i32_w]; rw [c4b0]) | skip)
      have H' := Aside0.mk H
      clear H
      go_wp2
      go_meet
      case rel => exact ⟨_, (decide (a1 > 65535)), (by first | rfl | (simp; done) | (simp [*]; done)), H', ⟨by first | omega | exact Nat.le_refl _⟩, by repeat (first | exact Drawn0.refl _ | apply Drawn0.step)⟩
  case rest =>
    clear HC3
    try clear p2
    try clear c3
    try clear c4
    try clear c4b0
    obtain ⟨kq, x12_2, rfl, HA, HJ2, ⟨mc2, rfl⟩⟩ := hcut
    cases kq with
    | zero => exact absurd HA.out (by simp [laws_FnConvertChannel.j0])
    | succ kj2 =>
      have H := HA.out
      clear HA
      simp only [laws_FnConvertChannel.j0] at H
      by_cases c5 : x12_2 = true
      · subst c5
        have H1 : ((impl_ConvertChannel.f 65535).bind fun t102 => (some (t102 == 100))) = some r := by rw [if_pos rfl] at H; exact H
        clear H
        have H := H1
        clear H1
        replace H := Option.bind_eq_some_iff.mp H
        obtain ⟨t102, A60, H⟩ := H
        replace H : (some (t102 == 100)) = some r := H
        have A6 := Aside0.mk A60
        clear A60
        obtain rfl := Option.some.inj H
        go_wp2_with (first | ((with_reducible refine gate_callee (f := 7) rfl ?_); refine goesL_ (some 13) rfl rfl Try.func7 (by kernel_rfl) rfl #[.int .u32 65535] rfl (by (try simp only [List.map_toArray, List.map_cons, List.map_nil]); first | done | rfl | (simp only [List.length_drop, List.length_take]; rfl)) ?_; (with_reducible refine (impl_ConvertChannel.calls 65535 t102 _ A6.out).mono ?_); rintro e w' ⟨rfl, ⟨nd, rfl⟩⟩; refine ⟨_, rfl, ?_⟩))
        go_ret
        exact ⟨by first | rfl | (simp; done) | (simp [*]; done), by repeat (first | exact Drawn0.refl _ | apply Drawn0.step)⟩
      · replace c5 := Bool.eq_false_iff.mpr c5
        subst c5
        have H1 : ((impl_ConvertChannel.f a0).bind fun t103 => ((impl_ConvertChannel.f a1).bind fun t104 => (if t103 = (((((a0 + 328) % 4294967296) * 100) % 4294967296) / 65535) then (if t103 ≤ 100 then (if a0 > a1 then ((impl_ConvertChannel.f 0).bind fun t105 => (if t105 = 0 then ((impl_ConvertChannel.f 65535).bind fun t106 => (some (t106 == 100))) else (some false))) else (if t103 ≤ t104 then ((impl_ConvertChannel.f 0).bind fun t107 => (if t107 = 0 then ((impl_ConvertChannel.f 65535).bind fun t108 => (some (t108 == 100))) else (some false))) else (some false))) else (some false)) else (some false)))) = some r := by rw [if_neg (show ¬ (false = true) by decide)] at H; exact H
        clear H
        have H := H1
        clear H1
        replace H := Option.bind_eq_some_iff.mp H
        obtain ⟨t103, A70, H⟩ := H
        replace H : ((impl_ConvertChannel.f a1).bind fun t104 => (if t103 = (((((a0 + 328) % 4294967296) * 100) % 4294967296) / 65535) then (if t103 ≤ 100 then (if a0 > a1 then ((impl_ConvertChannel.f 0).bind fun t105 => (if t105 = 0 then ((impl_ConvertChannel.f 65535).bind fun t106 => (some (t106 == 100))) else (some false))) else (if t103 ≤ t104 then ((impl_ConvertChannel.f 0).bind fun t107 => (if t107 = 0 then ((impl_ConvertChannel.f 65535).bind fun t108 => (some (t108 == 100))) else (some false))) else (some false))) else (some false)) else (some false))) = some r := H
        have A7 := Aside0.mk A70
        clear A70
        replace H := Option.bind_eq_some_iff.mp H
        obtain ⟨t104, A80, H⟩ := H
        replace H : (if t103 = (((((a0 + 328) % 4294967296) * 100) % 4294967296) / 65535) then (if t103 ≤ 100 then (if a0 > a1 then ((impl_ConvertChannel.f 0).bind fun t105 => (if t105 = 0 then ((impl_ConvertChannel.f 65535).bind fun t106 => (some (t106 == 100))) else (some false))) else (if t103 ≤ t104 then ((impl_ConvertChannel.f 0).bind fun t107 => (if t107 = 0 then ((impl_ConvertChannel.f 65535).bind fun t108 => (some (t108 == 100))) else (some false))) else (some false))) else (some false)) else (some false)) = some r := H
        have A8 := Aside0.mk A80
        clear A80
        by_cases c9 : t103 = (((((a0 + 328) % 4294967296) * 100) % 4294967296) / 65535)
        · rw [if_pos c9] at H
          have c9b0 : (t103 == (((((a0 + 328) % 4294967296) * 100) % 4294967296) / 65535)) = true := beq_iff_eq.mpr c9
          have c9b1 : (t103 != (((((a0 + 328) % 4294967296) * 100) % 4294967296) / 65535)) = false := bne_eq_false_iff_eq.mpr c9
          clear c9
          by_cases c10 : t103 ≤ 100
          · rw [if_pos c10] at H
            have c10b0 : decide (t103 ≤ 100) = true := decide_eq_true c10
            clear c10
            by_cases c11 : a0 > a1
            · rw [if_pos c11] at H
              have c11b0 : decide (a1 < a0) = true := decide_eq_true c11
              clear c11
              replace H := Option.bind_eq_some_iff.mp H
              obtain ⟨t105, A120, H⟩ := H
              replace H : (if t105 = 0 then ((impl_ConvertChannel.f 65535).bind fun t106 => (some (t106 == 100))) else (some false)) = some r := H
              have A12 := Aside0.mk A120
              clear A120
              by_cases c13 : t105 = 0
              · rw [if_pos c13] at H
                have c13b0 : (t105 == 0) = true := beq_iff_eq.mpr c13
                have c13b1 : (t105 != 0) = false := bne_eq_false_iff_eq.mpr c13
                clear c13
                replace H := Option.bind_eq_some_iff.mp H
                obtain ⟨t106, A140, H⟩ := H
                replace H : (some (t106 == 100)) = some r := H
                have A14 := Aside0.mk A140
                clear A140
                obtain rfl := Option.some.inj H
                go_wp2_with (first | ((with_reducible refine gate_callee (f := 7) rfl ?_); refine goesL_ (some 16) rfl rfl Try.func7 (by kernel_rfl) rfl #[.int .u32 a0] rfl (by (try simp only [List.map_toArray, List.map_cons, List.map_nil]); first | done | rfl | (simp only [List.length_drop, List.length_take]; rfl)) ?_; (with_reducible refine (impl_ConvertChannel.calls a0 t103 _ A7.out).mono ?_); rintro e w' ⟨rfl, ⟨nd, rfl⟩⟩; refine ⟨_, rfl, ?_⟩) | ((with_reducible refine gate_callee (f := 7) rfl ?_); refine goesL_ (some 18) rfl rfl Try.func7 (by kernel_rfl) rfl #[.int .u32 a1] rfl (by (try simp only [List.map_toArray, List.map_cons, List.map_nil]); first | done | rfl | (simp only [List.length_drop, List.length_take]; rfl)) ?_; (with_reducible refine (impl_ConvertChannel.calls a1 t104 _ A8.out).mono ?_); rintro e w' ⟨rfl, ⟨nd, rfl⟩⟩; refine ⟨_, rfl, ?_⟩) | (go_at_call 7; (with_reducible refine (impl_ConvertChannel.calls 0 t105 _ A12.out).mono ?_); rintro e w' ⟨rfl, ⟨nd, rfl⟩⟩) | (go_at_call 7; (with_reducible refine (impl_ConvertChannel.calls 65535 t106 _ A14.out).mono ?_); rintro e w' ⟨rfl, ⟨nd, rfl⟩⟩))
                go_ret
                exact ⟨by first | rfl | (simp; done) | (simp [*]; done), by repeat (first | exact Drawn0.refl _ | apply Drawn0.step)⟩
              · rw [if_neg c13] at H
                have c13b0 : (t105 == 0) = false := beq_eq_false_iff_ne.mpr c13
                have c13b1 : (t105 != 0) = true := bne_iff_ne.mpr c13
                obtain rfl := Option.some.inj H
                go_wp2_with (first | ((with_reducible refine gate_callee (f := 7) rfl ?_); refine goesL_ (some 16) rfl rfl Try.func7 (by kernel_rfl) rfl #[.int .u32 a0] rfl (by (try simp only [List.map_toArray, List.map_cons, List.map_nil]); first | done | rfl | (simp only [List.length_drop, List.length_take]; rfl)) ?_; (with_reducible refine (impl_ConvertChannel.calls a0 t103 _ A7.out).mono ?_); rintro e w' ⟨rfl, ⟨nd, rfl⟩⟩; refine ⟨_, rfl, ?_⟩) | ((with_reducible refine gate_callee (f := 7) rfl ?_); refine goesL_ (some 18) rfl rfl Try.func7 (by kernel_rfl) rfl #[.int .u32 a1] rfl (by (try simp only [List.map_toArray, List.map_cons, List.map_nil]); first | done | rfl | (simp only [List.length_drop, List.length_take]; rfl)) ?_; (with_reducible refine (impl_ConvertChannel.calls a1 t104 _ A8.out).mono ?_); rintro e w' ⟨rfl, ⟨nd, rfl⟩⟩; refine ⟨_, rfl, ?_⟩) | (go_at_call 7; (with_reducible refine (impl_ConvertChannel.calls 0 t105 _ A12.out).mono ?_); rintro e w' ⟨rfl, ⟨nd, rfl⟩⟩))
                go_ret
                exact ⟨by first | rfl | (simp; done) | (simp [*]; done), by repeat (first | exact Drawn0.refl _ | apply Drawn0.step)⟩
            · rw [if_neg c11] at H
              have c11b0 : decide (a1 < a0) = false := decide_eq_false c11
              clear c11
              by_cases c15 : t103 ≤ t104
              · rw [if_pos c15] at H
                have c15b0 : decide (t103 ≤ t104) = true := decide_eq_true c15
                clear c15
                replace H := Option.bind_eq_some_iff.mp H
                obtain ⟨t107, A160, H⟩ := H
                replace H : (if t107 = 0 then ((impl_ConvertChannel.f 65535).bind fun t108 => (some (t108 == 100))) else (some false)) = some r := H
                have A16 := Aside0.mk A160
                clear A160
                by_cases c17 : t107 = 0
                · rw [if_pos c17] at H
                  have c17b0 : (t107 == 0) = true := beq_iff_eq.mpr c17
                  have c17b1 : (t107 != 0) = false := bne_eq_false_iff_eq.mpr c17
                  clear c17
                  replace H := Option.bind_eq_some_iff.mp H
                  obtain ⟨t108, A180, H⟩ := H
                  replace H : (some (t108 == 100)) = some r := H
                  have A18 := Aside0.mk A180
                  clear A180
                  obtain rfl := Option.some.inj H
                  go_wp2_with (first | ((with_reducible refine gate_callee (f := 7) rfl ?_); refine goesL_ (some 16) rfl rfl Try.func7 (by kernel_rfl) rfl #[.int .u32 a0] rfl (by (try simp only [List.map_toArray, List.map_cons, List.map_nil]); first | done | rfl | (simp only [List.length_drop, List.length_take]; rfl)) ?_; (with_reducible refine (impl_ConvertChannel.calls a0 t103 _ A7.out).mono ?_); rintro e w' ⟨rfl, ⟨nd, rfl⟩⟩; refine ⟨_, rfl, ?_⟩) | ((with_reducible refine gate_callee (f := 7) rfl ?_); refine goesL_ (some 18) rfl rfl Try.func7 (by kernel_rfl) rfl #[.int .u32 a1] rfl (by (try simp only [List.map_toArray, List.map_cons, List.map_nil]); first | done | rfl | (simp only [List.length_drop, List.length_take]; rfl)) ?_; (with_reducible refine (impl_ConvertChannel.calls a1 t104 _ A8.out).mono ?_); rintro e w' ⟨rfl, ⟨nd, rfl⟩⟩; refine ⟨_, rfl, ?_⟩) | (go_at_call 7; (with_reducible refine (impl_ConvertChannel.calls 0 t107 _ A16.out).mono ?_); rintro e w' ⟨rfl, ⟨nd, rfl⟩⟩) | (go_at_call 7; (with_reducible refine (impl_ConvertChannel.calls 65535 t108 _ A18.out).mono ?_); rintro e w' ⟨rfl, ⟨nd, rfl⟩⟩))
                  go_ret
                  exact ⟨by first | rfl | (simp; done) | (simp [*]; done), by repeat (first | exact Drawn0.refl _ | apply Drawn0.step)⟩
                · rw [if_neg c17] at H
                  have c17b0 : (t107 == 0) = false := beq_eq_false_iff_ne.mpr c17
                  have c17b1 : (t107 != 0) = true := bne_iff_ne.mpr c17
                  obtain rfl := Option.some.inj H
                  go_wp2_with (first | ((with_reducible refine gate_callee (f := 7) rfl ?_); refine goesL_ (some 16) rfl rfl Try.func7 (by kernel_rfl) rfl #[.int .u32 a0] rfl (by (try simp only [List.map_toArray, List.map_cons, List.map_nil]); first | done | rfl | (simp only [List.length_drop, List.length_take]; rfl)) ?_; (with_reducible refine (impl_ConvertChannel.calls a0 t103 _ A7.out).mono ?_); rintro e w' ⟨rfl, ⟨nd, rfl⟩⟩; refine ⟨_, rfl, ?_⟩) | ((with_reducible refine gate_callee (f := 7) rfl ?_); refine goesL_ (some 18) rfl rfl Try.func7 (by kernel_rfl) rfl #[.int .u32 a1] rfl (by (try simp only [List.map_toArray, List.map_cons, List.map_nil]); first | done | rfl | (simp only [List.length_drop, List.length_take]; rfl)) ?_; (with_reducible refine (impl_ConvertChannel.calls a1 t104 _ A8.out).mono ?_); rintro e w' ⟨rfl, ⟨nd, rfl⟩⟩; refine ⟨_, rfl, ?_⟩) | (go_at_call 7; (with_reducible refine (impl_ConvertChannel.calls 0 t107 _ A16.out).mono ?_); rintro e w' ⟨rfl, ⟨nd, rfl⟩⟩))
                  go_ret
                  exact ⟨by first | rfl | (simp; done) | (simp [*]; done), by repeat (first | exact Drawn0.refl _ | apply Drawn0.step)⟩
              · rw [if_neg c15] at H
                have c15b0 : decide (t103 ≤ t104) = false := decide_eq_false c15
                clear c15
                obtain rfl := Option.some.inj H
                go_wp2_with (first | ((with_reducible refine gate_callee (f := 7) rfl ?_); refine goesL_ (some 16) rfl rfl Try.func7 (by kernel_rfl) rfl #[.int .u32 a0] rfl (by (try simp only [List.map_toArray, List.map_cons, List.map_nil]); first | done | rfl | (simp only [List.length_drop, List.length_take]; rfl)) ?_; (with_reducible refine (impl_ConvertChannel.calls a0 t103 _ A7.out).mono ?_); rintro e w' ⟨rfl, ⟨nd, rfl⟩⟩; refine ⟨_, rfl, ?_⟩) | ((with_reducible refine gate_callee (f := 7) rfl ?_); refine goesL_ (some 18) rfl rfl Try.func7 (by kernel_rfl) rfl #[.int .u32 a1] rfl (by (try simp only [List.map_toArray, List.map_cons, List.map_nil]); first | done | rfl | (simp only [List.length_drop, List.length_take]; rfl)) ?_; (with_reducible refine (impl_ConvertChannel.calls a1 t104 _ A8.out).mono ?_); rintro e w' ⟨rfl, ⟨nd, rfl⟩⟩; refine ⟨_, rfl, ?_⟩))
                go_ret
                exact ⟨by first | rfl | (simp; done) | (simp [*]; done), by repeat (first | exact Drawn0.refl _ | apply Drawn0.step)⟩
          · rw [if_neg c10] at H
            have c10b0 : decide (t103 ≤ 100) = false := decide_eq_false c10
            clear c10
            obtain rfl := Option.some.inj H
            go_wp2_with (first | ((with_reducible refine gate_callee (f := 7) rfl ?_); refine goesL_ (some 16) rfl rfl Try.func7 (by kernel_rfl) rfl #[.int .u32 a0] rfl (by (try simp only [List.map_toArray, List.map_cons, List.map_nil]); first | done | rfl | (simp only [List.length_drop, List.length_take]; rfl)) ?_; (with_reducible refine (impl_ConvertChannel.calls a0 t103 _ A7.out).mono ?_); rintro e w' ⟨rfl, ⟨nd, rfl⟩⟩; refine ⟨_, rfl, ?_⟩) | ((with_reducible refine gate_callee (f := 7) rfl ?_); refine goesL_ (some 18) rfl rfl Try.func7 (by kernel_rfl) rfl #[.int .u32 a1] rfl (by (try simp only [List.map_toArray, List.map_cons, List.map_nil]); first | done | rfl | (simp only [List.length_drop, List.length_take]; rfl)) ?_; (with_reducible refine (impl_ConvertChannel.calls a1 t104 _ A8.out).mono ?_); rintro e w' ⟨rfl, ⟨nd, rfl⟩⟩; refine ⟨_, rfl, ?_⟩))
            go_ret
            exact ⟨by first | rfl | (simp; done) | (simp [*]; done), by repeat (first | exact Drawn0.refl _ | apply Drawn0.step)⟩
        · rw [if_neg c9] at H
          have c9b0 : (t103 == (((((a0 + 328) % 4294967296) * 100) % 4294967296) / 65535)) = false := beq_eq_false_iff_ne.mpr c9
          have c9b1 : (t103 != (((((a0 + 328) % 4294967296) * 100) % 4294967296) / 65535)) = true := bne_iff_ne.mpr c9
          obtain rfl := Option.some.inj H
          go_wp2_with (first | ((with_reducible refine gate_callee (f := 7) rfl ?_); refine goesL_ (some 16) rfl rfl Try.func7 (by kernel_rfl) rfl #[.int .u32 a0] rfl (by (try simp only [List.map_toArray, List.map_cons, List.map_nil]); first | done | rfl | (simp only [List.length_drop, List.length_take]; rfl)) ?_; (with_reducible refine (impl_ConvertChannel.calls a0 t103 _ A7.out).mono ?_); rintro e w' ⟨rfl, ⟨nd, rfl⟩⟩; refine ⟨_, rfl, ?_⟩) | ((with_reducible refine gate_callee (f := 7) rfl ?_); refine goesL_ (some 18) rfl rfl Try.func7 (by kernel_rfl) rfl #[.int .u32 a1] rfl (by (try simp only [List.map_toArray, List.map_cons, List.map_nil]); first | done | rfl | (simp only [List.length_drop, List.length_take]; rfl)) ?_; (with_reducible refine (impl_ConvertChannel.calls a1 t104 _ A8.out).mono ?_); rintro e w' ⟨rfl, ⟨nd, rfl⟩⟩; refine ⟨_, rfl, ?_⟩))
          go_ret
          exact ⟨by first | rfl | (simp; done) | (simp [*]; done), by repeat (first | exact Drawn0.refl _ | apply Drawn0.step)⟩

/-- THE ONE PURE STATEMENT of laws_FnConvertChannel: yours. -/
def laws_FnConvertChannel.Pure : Prop := ∀ (a0 : Int) (a1 : Int), (Lit.int .u32 a0).wf = true → (Lit.int .u32 a1).wf = true → ∃ k, laws_FnConvertChannel.f k a0 a1 = some true
theorem laws_FnConvertChannel.walk (P : laws_FnConvertChannel.Pure) (a0 : Int) (a1 : Int) (w : World) (w0 : (Lit.int .u32 a0).wf = true) (w1 : (Lit.int .u32 a1).wf = true) :
    Calls Try.prog 3 #[.int .u32 a0, .int .u32 a1] w fun e w' => e = .returned (.bool true) ∧ Below w.heap.size w w' := by
  obtain ⟨k, h⟩ := P a0 a1 w0 w1
  refine (laws_FnConvertChannel.calls k a0 a1 true w h).mono ?_
  rintro e w' ⟨rfl, hd⟩
  exact ⟨rfl, hd.below⟩

end Go.Proofs.Ytjicpadeplminaa.PFnConvertChannel
