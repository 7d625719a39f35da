-- Written by wip/pp.py, a program of this session, out of the translation. Not trusted: Lean checks it.
import Derived.Test.YtnjbobboookfmaaPEx0
import Derived.Test.YtnjbobboookfmaaPEx3
namespace Go.Proofs.Ytnjbobboookfmaa.PE
open Go.RowKit Go.Proofs.YtnjbobboookfmaaW.PrintWords Go.Proofs.YtnjbobboookfmaaW.PrintLast Go.Proofs.YtnjbobboookfmaaW.PrintMore
attribute [local go_sem] max2_int min2_int max_two min_two max_three min_three max_four min_four   -- for this text's walks alone
attribute [local go_sem] Go.Proofs.Ytnjbobboookfmaa.Ext.wrap64_mod256 Go.Proofs.Ytnjbobboookfmaa.Ext.wrap64_mod32 Go.Proofs.Ytnjbobboookfmaa.Ext.i64_mod256 Go.Proofs.Ytnjbobboookfmaa.Ext.i64_mod32 Go.Proofs.Ytnjbobboookfmaa.Ext.i64_u8 Go.Proofs.Ytnjbobboookfmaa.Ext.w64_u8 Go.Proofs.Ytnjbobboookfmaa.Ext.i64_u32 Go.Proofs.Ytnjbobboookfmaa.Ext.w64_u32 
set_option linter.unusedVariables false
set_option linter.unusedSimpArgs false

/-! ### laws_packAwake: function 11 -/
def laws_packAwake.f  : Option (Bool) := (impl_Pack.f 63 32 104).bind fun t166 => (some (t166 == 2113384))
set_option maxHeartbeats 8000000 in
set_option maxRecDepth 100000 in
theorem laws_packAwake.calls  (r : Bool) (w : World) (h : laws_packAwake.f  = some r) :
    Calls Try.prog 11 #[] w fun e w' => e = .returned (.bool r) ∧ Drawn0 w w' := by
  have H : ((impl_Pack.f 63 32 104).bind fun t166 => (some (t166 == 2113384))) = some r := h
  clear h
  replace H := Option.bind_eq_some_iff.mp H
  obtain ⟨t166, A10, H⟩ := H
  replace H : (some (t166 == 2113384)) = some r := H
  have A1 := Aside0.mk A10
  clear A10
  obtain rfl := Option.some.inj H
  go_enter Try.func11, Try.ntmps11
  go_wp2_with (first | ((with_reducible refine gate_callee (f := 31) rfl ?_); refine goesL_ (some 1) rfl rfl Try.func31 (by kernel_rfl) rfl #[.int .u8 63, .int .u8 32, .int .u8 104] rfl (by (try simp only [List.map_toArray, List.map_cons, List.map_nil]); first | done | rfl | (simp only [List.length_drop, List.length_take]; rfl) | (simp [Act.eval, *]; done) | (simp [Act.eval, *]; unfold wrap64; omega)) ?_; (with_reducible refine (impl_Pack.calls 63 32 104 t166 _ A1.out).mono ?_); rintro e w' ⟨rfl, ⟨nd, rfl⟩⟩; refine ⟨_, rfl, ?_⟩))
  go_ret
  exact ⟨by first | rfl | (simp; done) | (simp [*]; done), by repeat (first | exact Drawn0.refl _ | apply Drawn0.step)⟩

/-! ### spec_Value: function 32 -/
def spec_Value.f (a0 : Int) : Option (Int) := some (Go.bits .and .i64 a0 2147483647)
set_option maxHeartbeats 8000000 in
set_option maxRecDepth 100000 in
theorem spec_Value.calls (a0 : Int) (r : Int) (w : World) (h : spec_Value.f a0 = some r) :
    Calls Try.prog 32 #[.int .i64 a0] w fun e w' => e = .returned (.int .i64 r) ∧ Drawn0 w w' := by
  have H : (some (Go.bits .and .i64 a0 2147483647)) = some r := h
  clear h
  obtain rfl := Option.some.inj H
  go_enter Try.func32, Try.ntmps32
  go_wp2
  go_ret
  exact ⟨by first | rfl | (simp; done) | (simp [*]; done), by repeat (first | exact Drawn0.refl _ | apply Drawn0.step)⟩

/-! ### spec_Or: function 12 -/
def spec_Or.f (a0 : Int) (a1 : Int) : Option (Int) := (spec_Value.f a0).bind fun t167 => (if t167 = 2147483647 then (some a1) else ((spec_Value.f a0).bind fun t168 => (some t168)))
set_option maxHeartbeats 8000000 in
set_option maxRecDepth 100000 in
theorem spec_Or.calls (a0 : Int) (a1 : Int) (r : Int) (w : World) (h : spec_Or.f a0 a1 = some r) :
    Calls Try.prog 12 #[.int .i64 a0, .int .i64 a1] w fun e w' => e = .returned (.int .i64 r) ∧ Drawn0 w w' := by
  have H : ((spec_Value.f a0).bind fun t167 => (if t167 = 2147483647 then (some a1) else ((spec_Value.f a0).bind fun t168 => (some t168)))) = some r := h
  clear h
  replace H := Option.bind_eq_some_iff.mp H
  obtain ⟨t167, A30, H⟩ := H
  replace H : (if t167 = 2147483647 then (some a1) else ((spec_Value.f a0).bind fun t168 => (some t168))) = some r := H
  have A3 := Aside0.mk A30
  clear A30
  by_cases c4 : t167 = 2147483647
  · rw [if_pos c4] at H
    have c4b0 : (t167 == 2147483647) = true := beq_iff_eq.mpr c4
    have c4b1 : (t167 != 2147483647) = false := bne_eq_false_iff_eq.mpr c4
    clear c4
    obtain rfl := Option.some.inj H
    go_enter Try.func12, Try.ntmps12
    go_wp2_with (first | ((with_reducible refine gate_callee (f := 32) rfl ?_); refine goesL_ (some 6) rfl rfl Try.func32 (by kernel_rfl) rfl #[.int .i64 a0] rfl (by (try simp only [List.map_toArray, List.map_cons, List.map_nil]); first | done | rfl | (simp only [List.length_drop, List.length_take]; rfl) | (simp [Act.eval, *]; done) | (simp [Act.eval, *]; unfold wrap64; omega)) ?_; (with_reducible refine (spec_Value.calls a0 t167 _ A3.out).mono ?_); rintro e w' ⟨rfl, ⟨nd, rfl⟩⟩; refine ⟨_, rfl, ?_⟩))
    go_ret
    exact ⟨by first | rfl | (simp; done) | (simp [*]; done), by repeat (first | exact Drawn0.refl _ | apply Drawn0.step)⟩
  · rw [if_neg c4] at H
    have c4b0 : (t167 == 2147483647) = false := beq_eq_false_iff_ne.mpr c4
    have c4b1 : (t167 != 2147483647) = true := bne_iff_ne.mpr c4
    replace H := Option.bind_eq_some_iff.mp H
    obtain ⟨t168, A50, H⟩ := H
    replace H : (some t168) = some r := H
    have A5 := Aside0.mk A50
    clear A50
    obtain rfl := Option.some.inj H
    go_enter Try.func12, Try.ntmps12
    go_wp2_with (first | ((with_reducible refine gate_callee (f := 32) rfl ?_); refine goesL_ (some 6) rfl rfl Try.func32 (by kernel_rfl) rfl #[.int .i64 a0] rfl (by (try simp only [List.map_toArray, List.map_cons, List.map_nil]); first | done | rfl | (simp only [List.length_drop, List.length_take]; rfl) | (simp [Act.eval, *]; done) | (simp [Act.eval, *]; unfold wrap64; omega)) ?_; (with_reducible refine (spec_Value.calls a0 t167 _ A3.out).mono ?_); rintro e w' ⟨rfl, ⟨nd, rfl⟩⟩; refine ⟨_, rfl, ?_⟩) | ((with_reducible refine gate_callee (f := 32) rfl ?_); refine goesL_ (some 10) rfl rfl Try.func32 (by kernel_rfl) rfl #[.int .i64 a0] rfl (by (try simp only [List.map_toArray, List.map_cons, List.map_nil]); first | done | rfl | (simp only [List.length_drop, List.length_take]; rfl) | (simp [Act.eval, *]; done) | (simp [Act.eval, *]; unfold wrap64; omega)) ?_; (with_reducible refine (spec_Value.calls a0 t168 _ A5.out).mono ?_); rintro e w' ⟨rfl, ⟨nd, rfl⟩⟩; refine ⟨_, rfl, ?_⟩))
    go_ret
    exact ⟨by first | rfl | (simp; done) | (simp [*]; done), by repeat (first | exact Drawn0.refl _ | apply Drawn0.step)⟩

/-! ### spec_PlainAt: function 14 -/
def spec_PlainAt.f (l0 : List Int) (a1 : Int) : Option (Int) := if a1 < 0 then (some (-1)) else (if a1 ≥ (l0.length : Int) then (some (-1)) else (if 0 ≤ a1 then (if a1 < (l0.length : Int) then ((spec_Or.f (rd l0 a1) (-1)).bind fun t170 => (some t170)) else (none)) else (none)))
set_option maxHeartbeats 8000000 in
set_option maxRecDepth 100000 in
theorem spec_PlainAt.calls (A0 : Option Addr) (c0 : Nat) (l0 : List Int) (a1 : Int) (r : Int) (w : World) (hr0 : Kd.C (Kd.int .i64) w A0 l0.length l0) (hc0 : l0.length ≤ c0) (h : spec_PlainAt.f l0 a1 = some r) :
    Calls Try.prog 14 #[.slice A0 l0.length c0, .int .i64 a1] w fun e w' => e = .returned (.int .i64 r) ∧ Drawn0 w w' := by
  have HR0 := Aside0.mk hr0
  have HC0 := Aside0.mk hc0
  clear hr0 hc0
  have H : (if a1 < 0 then (some (-1)) else (if a1 ≥ (l0.length : Int) then (some (-1)) else (if 0 ≤ a1 then (if a1 < (l0.length : Int) then ((spec_Or.f (rd l0 a1) (-1)).bind fun t170 => (some t170)) else (none)) else (none)))) = some r := h
  clear h
  by_cases c3 : a1 < 0
  · rw [if_pos c3] at H
    have c3b0 : decide (a1 < 0) = true := decide_eq_true c3
    clear c3
    obtain rfl := Option.some.inj H
    go_enter Try.func14, Try.ntmps14
    go_wp2
    go_ret
    exact ⟨by first | rfl | (simp; done) | (simp [*]; done), by repeat (first | exact Drawn0.refl _ | apply Drawn0.step)⟩
  · rw [if_neg c3] at H
    have c3b0 : decide (a1 < 0) = false := decide_eq_false c3
    clear c3
    by_cases c4 : a1 ≥ (l0.length : Int)
    · rw [if_pos c4] at H
      have c4b0 : decide ((l0.length : Int) ≤ a1) = true := decide_eq_true c4
      clear c4
      obtain rfl := Option.some.inj H
      go_enter Try.func14, Try.ntmps14
      go_wp2
      go_ret
      exact ⟨by first | rfl | (simp; done) | (simp [*]; done), by repeat (first | exact Drawn0.refl _ | apply Drawn0.step)⟩
    · rw [if_neg c4] at H
      have c4b0 : decide ((l0.length : Int) ≤ a1) = false := decide_eq_false c4
      clear c4
      by_cases c5 : 0 ≤ a1
      · rw [if_pos c5] at H
        have c5b0 : decide (0 ≤ a1) = true := decide_eq_true c5
        clear c5
        by_cases c6 : a1 < (l0.length : Int)
        · rw [if_pos c6] at H
          have c6b0 : decide (a1 < (l0.length : Int)) = true := decide_eq_true c6
          clear c6
          replace H := Option.bind_eq_some_iff.mp H
          obtain ⟨t170, A70, H⟩ := H
          replace H : (some t170) = some r := H
          have A7 := Aside0.mk A70
          clear A70
          obtain rfl := Option.some.inj H
          have p169 : 0 ≤ (a1 : Int) := of_decide_eq_true (by first | (with_reducible assumption) | assumption)
          have q169 : a1 < (l0.length : Int) := of_decide_eq_true (by first | (with_reducible assumption) | assumption)
          obtain ⟨ad169, e169, hx169_0⟩ := Kd.at_int HR0.out a1 p169 q169
          cases e169
          replace p169 := eq_true p169
          replace q169 := eq_true q169
          go_enter Try.func14, Try.ntmps14
          go_wp2_with (first | ((with_reducible refine gate_callee (f := 12) rfl ?_); refine goesL_ (some 17) rfl rfl Try.func12 (by kernel_rfl) rfl #[.int .i64 (rd l0 a1), .int .i64 (-1)] rfl (by (try simp only [List.map_toArray, List.map_cons, List.map_nil]); first | done | rfl | (simp only [List.length_drop, List.length_take]; rfl) | (simp [Act.eval, *]; done) | (simp [Act.eval, *]; unfold wrap64; omega)) ?_; (with_reducible refine (spec_Or.calls (rd l0 a1) (-1) t170 _ A7.out).mono ?_); rintro e w' ⟨rfl, ⟨nd, rfl⟩⟩; refine ⟨_, rfl, ?_⟩))
          go_ret
          exact ⟨by first | rfl | (simp; done) | (simp [*]; done), by repeat (first | exact Drawn0.refl _ | apply Drawn0.step)⟩
        · rw [if_neg c6] at H
          exact absurd H (by simp)
      · rw [if_neg c5] at H
        exact absurd H (by simp)

/-! ### spec_SameInts: function 15 -/
def spec_SameInts.l0 : Nat → List Int → List Int → Int → Int → Option (Bool)
  | 0, _, _, _, _ => none
  | k + 1, x0, x1, x12, x13 => if x13 < x12 then (if 0 ≤ x13 then (if x13 < (x0.length : Int) then (if x13 < (x1.length : Int) then (if (rd x0 x13) = (rd x1 x13) then (spec_SameInts.l0 k x0 x1 x12 (wrap64 (x13 + 1))) else (some false)) else (none)) else (none)) else (none)) else (some true)
def spec_SameInts.f (k : Nat) (l0 : List Int) (l1 : List Int) : Option (Bool) := if (l0.length : Int) = (l1.length : Int) then (spec_SameInts.l0 k l0 l1 (l0.length : Int) 0) else (some false)
theorem spec_SameInts.mono_l : ∀ k, (∀ y0 y1 y2 y3, LeO (spec_SameInts.l0 k y0 y1 y2 y3) (spec_SameInts.l0 (k + 1) y0 y1 y2 y3))
  | 0 => fun _ _ _ _ r h => by simp [spec_SameInts.l0] at h
  | k + 1 => by
    have ih0 := spec_SameInts.mono_l k
    · intro y0 y1 y2 y3
      unfold spec_SameInts.l0
      repeat' first
      | (with_reducible exact ih0 _ _ _ _)
      | (with_reducible exact LeO.refl _)
      | (with_reducible exact LeO.none _)
      | (with_reducible refine LeO.ite ?_ ?_)
      | (with_reducible refine LeO.bind ?_ (fun _ => ?_))
      | exact ih0 _ _ _ _
      | exact LeO.none _
      | refine LeO.ite ?_ ?_
      | refine LeO.bind ?_ (fun _ => ?_)
theorem spec_SameInts.mono : ∀ a0 a1 k, LeO (spec_SameInts.f k a0 a1) (spec_SameInts.f (k + 1) a0 a1) := by
  intro a0 a1 k
  have ih0 := spec_SameInts.mono_l k
  unfold spec_SameInts.f
  repeat' first
      | (with_reducible exact ih0 _ _ _ _)
      | (with_reducible exact LeO.refl _)
      | (with_reducible exact LeO.none _)
      | (with_reducible refine LeO.ite ?_ ?_)
      | (with_reducible refine LeO.bind ?_ (fun _ => ?_))
      | exact ih0 _ _ _ _
      | exact LeO.none _
      | refine LeO.ite ?_ ?_
      | refine LeO.bind ?_ (fun _ => ?_)
set_option maxHeartbeats 8000000 in
set_option maxRecDepth 100000 in
theorem spec_SameInts.calls (k : Nat) (A0 : Option Addr) (c0 : Nat) (l0 : List Int) (A1 : Option Addr) (c1 : Nat) (l1 : List Int) (r : Bool) (w : World) (hr0 : Kd.C (Kd.int .i64) w A0 l0.length l0) (hc0 : l0.length ≤ c0) (hr1 : Kd.C (Kd.int .i64) w A1 l1.length l1) (hc1 : l1.length ≤ c1) (h : spec_SameInts.f k l0 l1 = some r) :
    Calls Try.prog 15 #[.slice A0 l0.length c0, .slice A1 l1.length c1] w fun e w' => e = .returned (.bool r) ∧ Drawn0 w w' := by
  have HR0 := Aside0.mk hr0
  have HC0 := Aside0.mk hc0
  clear hr0 hc0
  have HR1 := Aside0.mk hr1
  have HC1 := Aside0.mk hc1
  clear hr1 hc1
  have H : (if (l0.length : Int) = (l1.length : Int) then (spec_SameInts.l0 k l0 l1 (l0.length : Int) 0) else (some false)) = some r := h
  clear h
  by_cases c3 : (l0.length : Int) = (l1.length : Int)
  · rw [if_pos c3] at H
    have c3b0 : ((l0.length : Int) == (l1.length : Int)) = true := beq_iff_eq.mpr c3
    have c3b1 : ((l0.length : Int) != (l1.length : Int)) = false := bne_eq_false_iff_eq.mpr c3
    have c3b2 : (l0.length == l1.length) = true := by first | simpa using c3 | (simp at c3 ⊢; omega)
    clear c3
    have H' := Aside0.mk H
    clear H
    go_enter Try.func15, Try.ntmps15
    go_wp2
    repeat (go_quiet (fail); try go_wp2)
    go_loopg [13] k (fun kq v13 w' => ∃ (x13_1 : Int), v13 = .int .i64 x13_1 ∧ Aside0 (spec_SameInts.l0 kq l0 l1 (l0.length : Int) x13_1 = some r) ∧ Aside0 (kq ≤ k) ∧ Drawn0 w w')
    case atStart => exact ⟨(0), (by first | rfl | (simp; done) | (simp [*]; done)), H', ⟨Nat.le_refl _⟩, by repeat (first | exact Drawn0.refl _ | apply Drawn0.step)⟩
    case round =>
      clear H'
      try clear c1
      try clear p2
      try clear c3
      try clear c3b0
      try clear c3b1
      try clear c3b2
      obtain ⟨x13_1, rfl, HA, HK1, ⟨m1, rfl⟩⟩ := hrel
      cases gk with
      | zero => exact absurd HA.out (by simp [spec_SameInts.l0])
      | succ k1 =>
        have H := HA.out
        clear HA
        simp only [spec_SameInts.l0] at H
        by_cases c4 : x13_1 < (l0.length : Int)
        · rw [if_pos c4] at H
          have c4b0 : decide (x13_1 < (l0.length : Int)) = true := decide_eq_true c4
          clear c4
          by_cases c5 : 0 ≤ x13_1
          · rw [if_pos c5] at H
            have c5b0 : decide (0 ≤ x13_1) = true := decide_eq_true c5
            clear c5
            by_cases c6 : x13_1 < (l0.length : Int)
            · rw [if_pos c6] at H
              have c6b0 : decide (x13_1 < (l0.length : Int)) = true := decide_eq_true c6
              clear c6
              by_cases c7 : x13_1 < (l1.length : Int)
              · rw [if_pos c7] at H
                have c7b0 : decide (x13_1 < (l1.length : Int)) = true := decide_eq_true c7
                clear c7
                by_cases c8 : (rd l0 x13_1) = (rd l1 x13_1)
                · rw [if_pos c8] at H
                  have c8b0 : ((rd l0 x13_1) == (rd l1 x13_1)) = true := beq_iff_eq.mpr c8
                  have c8b1 : ((rd l0 x13_1) != (rd l1 x13_1)) = false := bne_eq_false_iff_eq.mpr c8
                  clear c8
                  have H' := Aside0.mk H
                  clear H
                  have p171 : 0 ≤ (x13_1 : Int) := of_decide_eq_true (by first | (with_reducible assumption) | assumption)
                  have q171 : x13_1 < (l0.length : Int) := of_decide_eq_true (by first | (with_reducible assumption) | assumption)
                  obtain ⟨ad171, e171, hx171_0⟩ := Kd.at_int HR0.out x13_1 p171 q171
                  cases e171
                  replace p171 := eq_true p171
                  replace q171 := eq_true q171
                  have p172 : 0 ≤ (x13_1 : Int) := of_decide_eq_true (by first | (with_reducible assumption) | assumption)
                  have q172 : x13_1 < (l1.length : Int) := of_decide_eq_true (by first | (with_reducible assumption) | assumption)
                  obtain ⟨ad172, e172, hx172_0⟩ := Kd.at_int HR1.out x13_1 p172 q172
                  cases e172
                  replace p172 := eq_true p172
                  replace q172 := eq_true q172
                  go_wp2
                  repeat (go_quiet (fail); try go_wp2)
                  go_roundg k1
                  case measure => have := HK1.out; omega
                  case rel => exact ⟨(wrap64 (x13_1 + 1)), (by first | rfl | (simp; done) | (simp [*]; done)), H', ⟨by have := HK1.out; omega⟩, by repeat (first | exact Drawn0.refl _ | apply Drawn0.step)⟩
                · rw [if_neg c8] at H
                  have c8b0 : ((rd l0 x13_1) == (rd l1 x13_1)) = false := beq_eq_false_iff_ne.mpr c8
                  have c8b1 : ((rd l0 x13_1) != (rd l1 x13_1)) = true := bne_iff_ne.mpr c8
                  obtain rfl := Option.some.inj H
                  have p171 : 0 ≤ (x13_1 : Int) := of_decide_eq_true (by first | (with_reducible assumption) | assumption)
                  have q171 : x13_1 < (l0.length : Int) := of_decide_eq_true (by first | (with_reducible assumption) | assumption)
                  obtain ⟨ad171, e171, hx171_0⟩ := Kd.at_int HR0.out x13_1 p171 q171
                  cases e171
                  replace p171 := eq_true p171
                  replace q171 := eq_true q171
                  have p172 : 0 ≤ (x13_1 : Int) := of_decide_eq_true (by first | (with_reducible assumption) | assumption)
                  have q172 : x13_1 < (l1.length : Int) := of_decide_eq_true (by first | (with_reducible assumption) | assumption)
                  obtain ⟨ad172, e172, hx172_0⟩ := Kd.at_int HR1.out x13_1 p172 q172
                  cases e172
                  replace p172 := eq_true p172
                  replace q172 := eq_true q172
                  go_wp2
                  repeat (go_quiet (fail); try go_wp2)
                  go_ret
                  exact ⟨by first | rfl | (simp; done) | (simp [*]; done), by repeat (first | exact Drawn0.refl _ | apply Drawn0.step)⟩
              · rw [if_neg c7] at H
                exact absurd H (by simp)
            · rw [if_neg c6] at H
              exact absurd H (by simp)
          · rw [if_neg c5] at H
            exact absurd H (by simp)
        · rw [if_neg c4] at H
          have c4b0 : decide (x13_1 < (l0.length : Int)) = false := decide_eq_false c4
          clear c4
          obtain rfl := Option.some.inj H
          go_wp2
          repeat (go_quiet (fail); try go_wp2)
          go_ret
          exact ⟨by first | rfl | (simp; done) | (simp [*]; done), by repeat (first | exact Drawn0.refl _ | apply Drawn0.step)⟩
  · rw [if_neg c3] at H
    have c3b0 : ((l0.length : Int) == (l1.length : Int)) = false := beq_eq_false_iff_ne.mpr c3
    have c3b1 : ((l0.length : Int) != (l1.length : Int)) = true := bne_iff_ne.mpr c3
    have c3b2 : (l0.length == l1.length) = false := by first | simpa using c3 | (simp at c3 ⊢; omega)
    obtain rfl := Option.some.inj H
    go_enter Try.func15, Try.ntmps15
    go_wp2
    repeat (go_quiet (fail); try go_wp2)
    go_ret
    exact ⟨by first | rfl | (simp; done) | (simp [*]; done), by repeat (first | exact Drawn0.refl _ | apply Drawn0.step)⟩

/-! ### spec_Subs: function 16 -/
mutual
def spec_Subs.j0 : Nat → List Int → Int → Bool → Option (List Int)
  | 0, _, _, _ => none
  | k + 1, x0, x1, x15 => if x15 = true then (some ([] : List Int)) else (spec_Subs.l0 k x0 x1 0 0)
def spec_Subs.l0 : Nat → List Int → Int → Int → Int → Option (List Int)
  | 0, _, _, _, _ => none
  | k + 1, x0, x1, x5, x6 => if x5 < (wrap64 ((x0.length : Int) - 1)) then (if x6 < x1 then (if 0 ≤ x5 then (if x5 < (x0.length : Int) then ((spec_More.f (rd x0 x5)).bind fun t174 => (if t174 = true then (spec_Subs.l0 k x0 x1 (wrap64 (x5 + 1)) x6) else (spec_Subs.l0 k x0 x1 (wrap64 (x5 + 1)) (wrap64 (x6 + 1))))) else (none)) else (none)) else (spec_Subs.l1 k x0 x5 ([] : List Int))) else (spec_Subs.l1 k x0 x5 ([] : List Int))
def spec_Subs.l1 : Nat → List Int → Int → List Int → Option (List Int)
  | 0, _, _, _ => none
  | k + 1, x0, x5, x7 => if x5 < (x0.length : Int) then (if 0 ≤ x5 then ((spec_Or.f (rd x0 x5) 0).bind fun t176 => (if x7.length < 17592186044416 then ((some (x7 ++ [t176] : List Int)).bind fun y177 => ((spec_More.f (rd x0 x5)).bind fun t181 => (if t181 = true then (spec_Subs.l1 k x0 (wrap64 (x5 + 1)) y177) else (some y177)))) else (none))) else (none)) else (if x7.length < 17592186044416 then (some (x7 ++ [0])) else (none))
end
def spec_Subs.f (k : Nat) (l0 : List Int) (a1 : Int) : Option (List Int) := if a1 < 0 then (spec_Subs.j0 k l0 a1 true) else (spec_Subs.j0 k l0 a1 (decide (a1 ≥ (l0.length : Int))))
theorem spec_Subs.mono_l : ∀ k, (∀ y0 y1 y2, LeO (spec_Subs.j0 k y0 y1 y2) (spec_Subs.j0 (k + 1) y0 y1 y2)) ∧ (∀ y0 y1 y2 y3, LeO (spec_Subs.l0 k y0 y1 y2 y3) (spec_Subs.l0 (k + 1) y0 y1 y2 y3)) ∧ (∀ y0 y1 y2, LeO (spec_Subs.l1 k y0 y1 y2) (spec_Subs.l1 (k + 1) y0 y1 y2))
  | 0 => ⟨fun _ _ _ r h => by simp [spec_Subs.j0] at h, fun _ _ _ _ r h => by simp [spec_Subs.l0] at h, fun _ _ _ r h => by simp [spec_Subs.l1] at h⟩
  | k + 1 => by
    obtain ⟨ih0, ih1, ih2⟩ := spec_Subs.mono_l k
    refine ⟨?_, ?_, ?_⟩
    · intro y0 y1 y2
      unfold spec_Subs.j0
      repeat' first
      | (with_reducible exact ih0 _ _ _)
      | (with_reducible exact ih1 _ _ _ _)
      | (with_reducible exact ih2 _ _ _)
      | (with_reducible exact LeO.refl _)
      | (with_reducible exact LeO.none _)
      | (with_reducible refine LeO.ite ?_ ?_)
      | (with_reducible refine LeO.bind ?_ (fun _ => ?_))
      | exact ih0 _ _ _
      | exact ih1 _ _ _ _
      | exact ih2 _ _ _
      | exact LeO.none _
      | refine LeO.ite ?_ ?_
      | refine LeO.bind ?_ (fun _ => ?_)
    · intro y0 y1 y2 y3
      unfold spec_Subs.l0
      repeat' first
      | (with_reducible exact ih0 _ _ _)
      | (with_reducible exact ih1 _ _ _ _)
      | (with_reducible exact ih2 _ _ _)
      | (with_reducible exact LeO.refl _)
      | (with_reducible exact LeO.none _)
      | (with_reducible refine LeO.ite ?_ ?_)
      | (with_reducible refine LeO.bind ?_ (fun _ => ?_))
      | exact ih0 _ _ _
      | exact ih1 _ _ _ _
      | exact ih2 _ _ _
      | exact LeO.none _
      | refine LeO.ite ?_ ?_
      | refine LeO.bind ?_ (fun _ => ?_)
    · intro y0 y1 y2
      unfold spec_Subs.l1
      repeat' first
      | (with_reducible exact ih0 _ _ _)
      | (with_reducible exact ih1 _ _ _ _)
      | (with_reducible exact ih2 _ _ _)
      | (with_reducible exact LeO.refl _)
      | (with_reducible exact LeO.none _)
      | (with_reducible refine LeO.ite ?_ ?_)
      | (with_reducible refine LeO.bind ?_ (fun _ => ?_))
      | exact ih0 _ _ _
      | exact ih1 _ _ _ _
      | exact ih2 _ _ _
      | exact LeO.none _
      | refine LeO.ite ?_ ?_
      | refine LeO.bind ?_ (fun _ => ?_)
theorem spec_Subs.mono : ∀ a0 a1 k, LeO (spec_Subs.f k a0 a1) (spec_Subs.f (k + 1) a0 a1) := by
  intro a0 a1 k
  obtain ⟨ih0, ih1, ih2⟩ := spec_Subs.mono_l k
  unfold spec_Subs.f
  repeat' first
      | (with_reducible exact ih0 _ _ _)
      | (with_reducible exact ih1 _ _ _ _)
      | (with_reducible exact ih2 _ _ _)
      | (with_reducible exact LeO.refl _)
      | (with_reducible exact LeO.none _)
      | (with_reducible refine LeO.ite ?_ ?_)
      | (with_reducible refine LeO.bind ?_ (fun _ => ?_))
      | exact ih0 _ _ _
      | exact ih1 _ _ _ _
      | exact ih2 _ _ _
      | exact LeO.none _
      | refine LeO.ite ?_ ?_
      | refine LeO.bind ?_ (fun _ => ?_)
set_option maxHeartbeats 8000000 in
set_option maxRecDepth 100000 in
theorem spec_Subs.calls (k : Nat) (A0 : Option Addr) (c0 : Nat) (l0 : List Int) (a1 : Int) (r : List Int) (w : World) (hr0 : Kd.C (Kd.int .i64) w A0 l0.length l0) (hc0 : l0.length ≤ c0) (h : spec_Subs.f k l0 a1 = some r) :
    Calls Try.prog 16 #[.slice A0 l0.length c0, .int .i64 a1] w fun e w' => ∃ v0_ : Value, e = .returned (v0_) ∧ Kd.R (Kd.int .i64) 2 w' w.heap.size (fun _ => True) v0_ r ∧ Below w.heap.size w w' := by
  have HR0 := Aside0.mk hr0
  have HC0 := Aside0.mk hc0
  clear hr0 hc0
  have HB := Aside0.mk (Below.refl w.heap.size w)
  have H : (if a1 < 0 then (spec_Subs.j0 k l0 a1 true) else (spec_Subs.j0 k l0 a1 (decide (a1 ≥ (l0.length : Int))))) = some r := h
  clear h
  have HC3 := Aside0.mk H
  clear H
  go_enter Try.func16, Try.ntmps16
  go_upto_region 1 with (fail)
  go_cut [15] (fun v15 wc => ∃ (kq : Nat) (x15_2 : Bool), v15 = .bool x15_2 ∧ Aside0 (spec_Subs.j0 kq l0 a1 x15_2 = some r) ∧ Aside0 (kq ≤ k) ∧ Aside0 (Below w.heap.size w wc))
  case first =>
    have H := HC3.out
    clear HC3
    by_cases c4 : a1 < 0
    · rw [if_pos c4] at H
      have c4b0 : decide (a1 < 0) = true := decide_eq_true c4
      clear c4
      (first | rw [c4b0] | (simp only [i64_w, i32_w]; rw [c4b0]) | skip)
      have H' := Aside0.mk H
      clear H
      go_wp2
      go_meet
      case rel => exact ⟨_, (true), (by first | rfl | (simp; done) | (simp [*]; done)), H', ⟨by first | omega | exact Nat.le_refl _⟩, ⟨by repeat (first | (with_reducible first | exact HB.out | apply below_alloc | apply Go.Proofs.Ytnjbobboookfmaa.Ext.below_bytes | apply pw_below_drewN | apply below_drew1) | exact HB.out)⟩⟩
    · rw [if_neg c4] at H
      have c4b0 : decide (a1 < 0) = false := decide_eq_false c4
      clear c4
      (first | rw [c4b0] | (simp only [i64_w, i32_w]; rw [c4b0]) | skip)
      have H' := Aside0.mk H
      clear H
      go_wp2
      go_meet
      case rel => exact ⟨_, (decide (a1 ≥ (l0.length : Int))), (by first | rfl | (simp; done) | (simp [*]; done)), H', ⟨by first | omega | exact Nat.le_refl _⟩, ⟨by repeat (first | (with_reducible first | exact HB.out | apply below_alloc | apply Go.Proofs.Ytnjbobboookfmaa.Ext.below_bytes | apply pw_below_drewN | apply below_drew1) | exact HB.out)⟩⟩
  case rest =>
    clear HC3
    try clear c1
    try clear p2
    try clear c4
    try clear c4b0
    obtain ⟨kq, x15_2, rfl, HA, HJ2, HB⟩ := hcut
    cases kq with
    | zero => exact absurd HA.out (by simp [spec_Subs.j0])
    | succ kj2 =>
      have H := HA.out
      clear HA
      simp only [spec_Subs.j0] at H
      by_cases c5 : x15_2 = true
      · subst c5
        have H1 : (some ([] : List Int)) = some r := by rw [if_pos rfl] at H; exact H
        clear H
        have H := H1
        clear H1
        obtain rfl := Option.some.inj H
        go_wp2
        go_ret
        exact ⟨_, by first | rfl | (simp [errW_none, errW_some] <;> rfl) | (simp [*, errW_none, errW_some] <;> rfl), by first | exact Kd.R_nil _ _ _ _ _ | exact Kd.N_nil _ _ _ _ _ | exact Kd.V_nil _ _ _ _ _ | exact Kd.Q_nil _ _ _ _ _ | exact Kd.S_nil _ _ _ _ _, by repeat (first | (with_reducible first | exact HB.out | apply below_alloc | apply Go.Proofs.Ytnjbobboookfmaa.Ext.below_bytes | apply pw_below_drewN | apply below_drew1) | exact HB.out)⟩
      · replace c5 := Bool.eq_false_iff.mpr c5
        subst c5
        have H1 : (spec_Subs.l0 kj2 l0 a1 0 0) = some r := by rw [if_neg (show ¬ (false = true) by decide)] at H; exact H
        clear H
        have H := H1
        clear H1
        have H' := Aside0.mk H
        clear H
        go_wp2
        go_loopg [5, 6] kj2 (fun kq v5 v6 w' => ∃ (x5_2 : Int) (x6_2 : Int), v5 = .int .i64 x5_2 ∧ v6 = .int .i64 x6_2 ∧ Aside0 (spec_Subs.l0 kq l0 a1 x5_2 x6_2 = some r) ∧ Aside0 (kq ≤ kj2) ∧ Aside0 (Below w.heap.size w w'))
        case atStart => exact ⟨(0), (0), (by first | rfl | (simp; done) | (simp [*]; done)), (by first | rfl | (simp; done) | (simp [*]; done)), H', ⟨Nat.le_refl _⟩, ⟨by repeat (first | (with_reducible first | exact HB.out | apply below_alloc | apply Go.Proofs.Ytnjbobboookfmaa.Ext.below_bytes | apply pw_below_drewN | apply below_drew1) | exact HB.out)⟩⟩
        case round =>
          clear H'
          try clear c1
          try clear p2
          try clear c4
          try clear c4b0
          try clear c5
          try clear p2
          obtain ⟨x5_2, x6_2, rfl, rfl, HA, HK2, HB⟩ := hrel
          cases gk with
          | zero => exact absurd HA.out (by simp [spec_Subs.l0])
          | succ k2 =>
            have H := HA.out
            clear HA
            simp only [spec_Subs.l0] at H
            by_cases c6 : x5_2 < (wrap64 ((l0.length : Int) - 1))
            · rw [if_pos c6] at H
              have c6b0 : decide (x5_2 < (wrap64 ((l0.length : Int) - 1))) = true := decide_eq_true c6
              clear c6
              by_cases c7 : x6_2 < a1
              · rw [if_pos c7] at H
                have c7b0 : decide (x6_2 < a1) = true := decide_eq_true c7
                clear c7
                by_cases c8 : 0 ≤ x5_2
                · rw [if_pos c8] at H
                  have c8b0 : decide (0 ≤ x5_2) = true := decide_eq_true c8
                  clear c8
                  by_cases c9 : x5_2 < (l0.length : Int)
                  · rw [if_pos c9] at H
                    have c9b0 : decide (x5_2 < (l0.length : Int)) = true := decide_eq_true c9
                    clear c9
                    replace H := Option.bind_eq_some_iff.mp H
                    obtain ⟨t174, A100, H⟩ := H
                    replace H : (if t174 = true then (spec_Subs.l0 k2 l0 a1 (wrap64 (x5_2 + 1)) x6_2) else (spec_Subs.l0 k2 l0 a1 (wrap64 (x5_2 + 1)) (wrap64 (x6_2 + 1)))) = some r := H
                    have A10 := Aside0.mk A100
                    clear A100
                    by_cases c11 : t174 = true
                    · subst c11
                      have H1 : (spec_Subs.l0 k2 l0 a1 (wrap64 (x5_2 + 1)) x6_2) = some r := by rw [if_pos rfl] at H; exact H
                      clear H
                      have H := H1
                      clear H1
                      have H' := Aside0.mk H
                      clear H
                      have p173 : 0 ≤ (x5_2 : Int) := of_decide_eq_true (by first | (with_reducible assumption) | assumption)
                      have q173 : x5_2 < (l0.length : Int) := of_decide_eq_true (by first | (with_reducible assumption) | assumption)
                      obtain ⟨ad173, e173, hx173_0⟩ := Kd.at_int HR0.out x5_2 p173 q173
                      cases e173
                      replace hx173_0 := (HB.out.cell (World.block_lt_of_cell? w _ hx173_0)).trans hx173_0
                      replace p173 := eq_true p173
                      replace q173 := eq_true q173
                      go_wp2_with (first | ((with_reducible refine gate_callee (f := 13) rfl ?_); refine goesL_ (some 30) rfl rfl Try.func13 (by kernel_rfl) rfl #[.int .i64 (rd l0 x5_2)] rfl (by (try simp only [List.map_toArray, List.map_cons, List.map_nil]); first | done | rfl | (simp only [List.length_drop, List.length_take]; rfl) | (simp [Act.eval, *]; done) | (simp [Act.eval, *]; unfold wrap64; omega)) ?_; (with_reducible refine (spec_More.calls (rd l0 x5_2) true _ A10.out).mono ?_); rintro e w' ⟨rfl, ⟨nd, rfl⟩⟩; refine ⟨_, rfl, ?_⟩))
                      go_roundg k2
                      case measure => have := HJ2.out; have := HK2.out; omega
                      case rel => exact ⟨(wrap64 (x5_2 + 1)), (x6_2), (by first | rfl | (simp; done) | (simp [*]; done)), (by first | rfl | (simp; done) | (simp [*]; done)), H', ⟨by have := HJ2.out; have := HK2.out; omega⟩, ⟨by repeat (first | (with_reducible first | exact HB.out | apply below_alloc | apply Go.Proofs.Ytnjbobboookfmaa.Ext.below_bytes | apply pw_below_drewN | apply below_drew1) | exact HB.out)⟩⟩
                    · replace c11 := Bool.eq_false_iff.mpr c11
                      subst c11
                      have H1 : (spec_Subs.l0 k2 l0 a1 (wrap64 (x5_2 + 1)) (wrap64 (x6_2 + 1))) = some r := by rw [if_neg (show ¬ (false = true) by decide)] at H; exact H
                      clear H
                      have H := H1
                      clear H1
                      have H' := Aside0.mk H
                      clear H
                      have p173 : 0 ≤ (x5_2 : Int) := of_decide_eq_true (by first | (with_reducible assumption) | assumption)
                      have q173 : x5_2 < (l0.length : Int) := of_decide_eq_true (by first | (with_reducible assumption) | assumption)
                      obtain ⟨ad173, e173, hx173_0⟩ := Kd.at_int HR0.out x5_2 p173 q173
                      cases e173
                      replace hx173_0 := (HB.out.cell (World.block_lt_of_cell? w _ hx173_0)).trans hx173_0
                      replace p173 := eq_true p173
                      replace q173 := eq_true q173
                      go_wp2_with (first | ((with_reducible refine gate_callee (f := 13) rfl ?_); refine goesL_ (some 30) rfl rfl Try.func13 (by kernel_rfl) rfl #[.int .i64 (rd l0 x5_2)] rfl (by (try simp only [List.map_toArray, List.map_cons, List.map_nil]); first | done | rfl | (simp only [List.length_drop, List.length_take]; rfl) | (simp [Act.eval, *]; done) | (simp [Act.eval, *]; unfold wrap64; omega)) ?_; (with_reducible refine (spec_More.calls (rd l0 x5_2) false _ A10.out).mono ?_); rintro e w' ⟨rfl, ⟨nd, rfl⟩⟩; refine ⟨_, rfl, ?_⟩))
                      go_roundg k2
                      case measure => have := HJ2.out; have := HK2.out; omega
                      case rel => exact ⟨(wrap64 (x5_2 + 1)), (wrap64 (x6_2 + 1)), (by first | rfl | (simp; done) | (simp [*]; done)), (by first | rfl | (simp; done) | (simp [*]; done)), H', ⟨by have := HJ2.out; have := HK2.out; omega⟩, ⟨by repeat (first | (with_reducible first | exact HB.out | apply below_alloc | apply Go.Proofs.Ytnjbobboookfmaa.Ext.below_bytes | apply pw_below_drewN | apply below_drew1) | exact HB.out)⟩⟩
                  · rw [if_neg c9] at H
                    exact absurd H (by simp)
                · rw [if_neg c8] at H
                  exact absurd H (by simp)
              · rw [if_neg c7] at H
                have c7b0 : decide (x6_2 < a1) = false := decide_eq_false c7
                clear c7
                have H' := Aside0.mk H
                clear H
                go_wp2
                go_loopg [5, 7] k2 (fun kq v5 v7 w' => ∃ (x5_3 : Int) (x7_3 : List Int), v5 = .int .i64 x5_3 ∧ Aside0 (spec_Subs.l1 kq l0 x5_3 x7_3 = some r) ∧ Aside0 (kq ≤ k2) ∧ Aside0 (Kd.R (Kd.int .i64) 2 w' w.heap.size (fun _ => True) v7 x7_3) ∧ Aside0 (Below w.heap.size w w'))
                case atStart => exact ⟨(x5_2), (([] : List Int)), (by first | rfl | (simp; done) | (simp [*]; done)), H', ⟨Nat.le_refl _⟩, ⟨by first | exact Kd.R_nil _ _ _ _ _ | exact Kd.N_nil _ _ _ _ _ | exact Kd.V_nil _ _ _ _ _ | exact Kd.Q_nil _ _ _ _ _ | exact Kd.S_nil _ _ _ _ _⟩, ⟨by repeat (first | (with_reducible first | exact HB.out | apply below_alloc | apply Go.Proofs.Ytnjbobboookfmaa.Ext.below_bytes | apply pw_below_drewN | apply below_drew1) | exact HB.out)⟩⟩
                case round =>
                  clear H'
                  try clear c1
                  try clear p1
                  try clear q1
                  try clear hx1
                  try clear p2
                  try clear c4
                  try clear c4b0
                  try clear c5
                  try clear c6
                  try clear c6b0
                  try clear p6
                  try clear c7
                  try clear c7b0
                  try clear c8
                  try clear c8b0
                  try clear c9
                  try clear c9b0
                  try clear c11
                  try clear hx173_0
                  try clear p173
                  try clear p2
                  try clear q173
                  obtain ⟨x5_3, x7_3, rfl, HA, HK3, HO_7, HB⟩ := hrel
                  cases gk with
                  | zero => exact absurd HA.out (by simp [spec_Subs.l1])
                  | succ k3 =>
                    have H := HA.out
                    clear HA
                    simp only [spec_Subs.l1] at H
                    by_cases c12 : x5_3 < (l0.length : Int)
                    · rw [if_pos c12] at H
                      have c12b0 : decide (x5_3 < (l0.length : Int)) = true := decide_eq_true c12
                      clear c12
                      by_cases c13 : 0 ≤ x5_3
                      · rw [if_pos c13] at H
                        have c13b0 : decide (0 ≤ x5_3) = true := decide_eq_true c13
                        clear c13
                        replace H := Option.bind_eq_some_iff.mp H
                        obtain ⟨t176, A140, H⟩ := H
                        replace H : (if x7_3.length < 17592186044416 then ((some (x7_3 ++ [t176] : List Int)).bind fun y177 => ((spec_More.f (rd l0 x5_3)).bind fun t181 => (if t181 = true then (spec_Subs.l1 k3 l0 (wrap64 (x5_3 + 1)) y177) else (some y177)))) else (none)) = some r := H
                        have A14 := Aside0.mk A140
                        clear A140
                        by_cases c15 : x7_3.length < 17592186044416
                        · rw [if_pos c15] at H
                          have LMc15 := Aside0.mk c15
                          clear c15
                          obtain ⟨y177, hy177⟩ : ∃ y_ : List Int, y_ = (x7_3 ++ [t176]) := ⟨_, rfl⟩
                          replace H : ((spec_More.f (rd l0 x5_3)).bind fun t181 => (if t181 = true then (spec_Subs.l1 k3 l0 (wrap64 (x5_3 + 1)) y177) else (some y177))) = some r := by first | (rw [hy177]; with_reducible exact H) | (have H2_ := (Option.bind_some _ _).symm.trans H; rw [hy177]; with_reducible exact H2_) | (have H2_ := (Option.bind_some _ _).symm.trans H; with_reducible exact H2_) | with_reducible exact H | (rw [hy177]; exact H) | exact H
                          have Ny177 := Aside0.mk hy177
                          clear hy177
                          replace H := Option.bind_eq_some_iff.mp H
                          obtain ⟨t181, A160, H⟩ := H
                          replace H : (if t181 = true then (spec_Subs.l1 k3 l0 (wrap64 (x5_3 + 1)) y177) else (some y177)) = some r := H
                          have A16 := Aside0.mk A160
                          clear A160
                          by_cases c17 : t181 = true
                          · subst c17
                            have H1 : (spec_Subs.l1 k3 l0 (wrap64 (x5_3 + 1)) y177) = some r := by rw [if_pos rfl] at H; exact H
                            clear H
                            have H := H1
                            clear H1
                            have H' := Aside0.mk H
                            clear H
                            have p175 : 0 ≤ (x5_3 : Int) := of_decide_eq_true (by first | (with_reducible assumption) | assumption)
                            have q175 : x5_3 < (l0.length : Int) := of_decide_eq_true (by first | (with_reducible assumption) | assumption)
                            obtain ⟨ad175, e175, hx175_0⟩ := Kd.at_int HR0.out x5_3 p175 q175
                            cases e175
                            replace hx175_0 := (HB.out.cell (World.block_lt_of_cell? w _ hx175_0)).trans hx175_0
                            replace p175 := eq_true p175
                            replace q175 := eq_true q175
                            go_wp2_with (first | ((with_reducible refine gate_callee (f := 12) rfl ?_); refine goesL_ (some 47) rfl rfl Try.func12 (by kernel_rfl) rfl #[.int .i64 (rd l0 x5_3), .int .i64 0] rfl (by (try simp only [List.map_toArray, List.map_cons, List.map_nil]); first | done | rfl | (simp only [List.length_drop, List.length_take]; rfl) | (simp [Act.eval, *]; done) | (simp [Act.eval, *]; unfold wrap64; omega)) ?_; (with_reducible refine (spec_Or.calls (rd l0 x5_3) 0 t176 _ A14.out).mono ?_); rintro e w' ⟨rfl, ⟨nd, rfl⟩⟩; refine ⟨_, rfl, ?_⟩) | ((with_reducible refine gate_builtin (b := .append) (xs := #[.tmp 42, .tmp 48]) rfl ?_); (try (refine gate_guard (by rfl) ?_; dsimp only)); at_builtin; refine Kd.R_append (Kd.int .i64) (w0 := w) w.heap.size rfl (.tmp 42) (.tmp 48) 41 2 (.int .i64 0) 8 rfl Try.underlying41 info2 rfl (by decide) (by omega) u7 x7_3 t176 [.int .i64 t176] (fun _ => True) (fun _ => False) rfl rfl ?aP (fun _ hk => hk.elim) ?aF ?aO ?aB ?aS ?aL ?_; (case aP => exact rfl); (case aB => exact (by repeat (first | (with_reducible first | exact HB.out | apply below_alloc | apply Go.Proofs.Ytnjbobboookfmaa.Ext.below_bytes | apply pw_below_drewN | apply below_drew1) | exact HB.out))); (case aF => exact (fun _ _ => trivial)); (case aO => exact (by (with_reducible repeat (first | apply Kd.R_alloc | apply Go.Proofs.Ytnjbobboookfmaa.Ext.R_bytes | apply Kd.R_drewN | apply Kd.R_drew)); exact HO_7.out)); (case aS => exact (below_size (by repeat (first | (with_reducible first | exact HB.out | apply below_alloc | apply Go.Proofs.Ytnjbobboookfmaa.Ext.below_bytes | apply pw_below_drewN | apply below_drew1) | exact HB.out)))); (case aL => have := LMc15.out; omega); intro v178 w18 ho hb hg hat; rw [← Ny177.out] at ho; have n0_ := Aside0.mk (hb); have n1_ := Aside0.mk (ho); clear HB; clear HO_7; have HB := n0_; have HO179 := n1_; clear n0_ n1_; clear ho hb hg hat; have p180 : 0 ≤ (x5_3 : Int) := of_decide_eq_true (by first | (with_reducible assumption) | assumption); have q180 : x5_3 < (l0.length : Int) := of_decide_eq_true (by first | (with_reducible assumption) | assumption); obtain ⟨ad180, e180, hx180_0⟩ := Kd.at_int HR0.out x5_3 p180 q180; obtain rfl : ad175 = ad180 := (by injection e180); replace hx180_0 := (HB.out.cell (World.block_lt_of_cell? w _ hx180_0)).trans hx180_0; replace p180 := eq_true p180; replace q180 := eq_true q180) | ((with_reducible refine gate_callee (f := 13) rfl ?_); refine goesL_ (some 54) rfl rfl Try.func13 (by kernel_rfl) rfl #[.int .i64 (rd l0 x5_3)] rfl (by (try simp only [List.map_toArray, List.map_cons, List.map_nil]); first | done | rfl | (simp only [List.length_drop, List.length_take]; rfl) | (simp [Act.eval, *]; done) | (simp [Act.eval, *]; unfold wrap64; omega)) ?_; (with_reducible refine (spec_More.calls (rd l0 x5_3) true _ A16.out).mono ?_); rintro e w' ⟨rfl, ⟨nd, rfl⟩⟩; refine ⟨_, rfl, ?_⟩))
                            go_roundg k3
                            case measure => have := HJ2.out; have := HK2.out; have := HK3.out; omega
                            case rel => exact ⟨(wrap64 (x5_3 + 1)), (y177), (by first | rfl | (simp; done) | (simp [*]; done)), H', ⟨by have := HJ2.out; have := HK2.out; have := HK3.out; omega⟩, ⟨by (with_reducible repeat (first | apply Kd.R_alloc | apply Go.Proofs.Ytnjbobboookfmaa.Ext.R_bytes | apply Kd.R_drewN | apply Kd.R_drew)); exact HO179.out⟩, ⟨by repeat (first | (with_reducible first | exact HB.out | apply below_alloc | apply Go.Proofs.Ytnjbobboookfmaa.Ext.below_bytes | apply pw_below_drewN | apply below_drew1) | exact HB.out)⟩⟩
                          · replace c17 := Bool.eq_false_iff.mpr c17
                            subst c17
                            have H1 : (some y177) = some r := by rw [if_neg (show ¬ (false = true) by decide)] at H; exact H
                            clear H
                            have H := H1
                            clear H1
                            obtain rfl := Option.some.inj H
                            have p175 : 0 ≤ (x5_3 : Int) := of_decide_eq_true (by first | (with_reducible assumption) | assumption)
                            have q175 : x5_3 < (l0.length : Int) := of_decide_eq_true (by first | (with_reducible assumption) | assumption)
                            obtain ⟨ad175, e175, hx175_0⟩ := Kd.at_int HR0.out x5_3 p175 q175
                            cases e175
                            replace hx175_0 := (HB.out.cell (World.block_lt_of_cell? w _ hx175_0)).trans hx175_0
                            replace p175 := eq_true p175
                            replace q175 := eq_true q175
                            go_wp2_with (first | ((with_reducible refine gate_callee (f := 12) rfl ?_); refine goesL_ (some 47) rfl rfl Try.func12 (by kernel_rfl) rfl #[.int .i64 (rd l0 x5_3), .int .i64 0] rfl (by (try simp only [List.map_toArray, List.map_cons, List.map_nil]); first | done | rfl | (simp only [List.length_drop, List.length_take]; rfl) | (simp [Act.eval, *]; done) | (simp [Act.eval, *]; unfold wrap64; omega)) ?_; (with_reducible refine (spec_Or.calls (rd l0 x5_3) 0 t176 _ A14.out).mono ?_); rintro e w' ⟨rfl, ⟨nd, rfl⟩⟩; refine ⟨_, rfl, ?_⟩) | ((with_reducible refine gate_builtin (b := .append) (xs := #[.tmp 42, .tmp 48]) rfl ?_); (try (refine gate_guard (by rfl) ?_; dsimp only)); at_builtin; refine Kd.R_append (Kd.int .i64) (w0 := w) w.heap.size rfl (.tmp 42) (.tmp 48) 41 2 (.int .i64 0) 8 rfl Try.underlying41 info2 rfl (by decide) (by omega) u7 x7_3 t176 [.int .i64 t176] (fun _ => True) (fun _ => False) rfl rfl ?aP (fun _ hk => hk.elim) ?aF ?aO ?aB ?aS ?aL ?_; (case aP => exact rfl); (case aB => exact (by repeat (first | (with_reducible first | exact HB.out | apply below_alloc | apply Go.Proofs.Ytnjbobboookfmaa.Ext.below_bytes | apply pw_below_drewN | apply below_drew1) | exact HB.out))); (case aF => exact (fun _ _ => trivial)); (case aO => exact (by (with_reducible repeat (first | apply Kd.R_alloc | apply Go.Proofs.Ytnjbobboookfmaa.Ext.R_bytes | apply Kd.R_drewN | apply Kd.R_drew)); exact HO_7.out)); (case aS => exact (below_size (by repeat (first | (with_reducible first | exact HB.out | apply below_alloc | apply Go.Proofs.Ytnjbobboookfmaa.Ext.below_bytes | apply pw_below_drewN | apply below_drew1) | exact HB.out)))); (case aL => have := LMc15.out; omega); intro v178 w19 ho hb hg hat; rw [← Ny177.out] at ho; have n0_ := Aside0.mk (hb); have n1_ := Aside0.mk (ho); clear HB; clear HO_7; have HB := n0_; have HO179 := n1_; clear n0_ n1_; clear ho hb hg hat; have p180 : 0 ≤ (x5_3 : Int) := of_decide_eq_true (by first | (with_reducible assumption) | assumption); have q180 : x5_3 < (l0.length : Int) := of_decide_eq_true (by first | (with_reducible assumption) | assumption); obtain ⟨ad180, e180, hx180_0⟩ := Kd.at_int HR0.out x5_3 p180 q180; obtain rfl : ad175 = ad180 := (by injection e180); replace hx180_0 := (HB.out.cell (World.block_lt_of_cell? w _ hx180_0)).trans hx180_0; replace p180 := eq_true p180; replace q180 := eq_true q180) | ((with_reducible refine gate_callee (f := 13) rfl ?_); refine goesL_ (some 54) rfl rfl Try.func13 (by kernel_rfl) rfl #[.int .i64 (rd l0 x5_3)] rfl (by (try simp only [List.map_toArray, List.map_cons, List.map_nil]); first | done | rfl | (simp only [List.length_drop, List.length_take]; rfl) | (simp [Act.eval, *]; done) | (simp [Act.eval, *]; unfold wrap64; omega)) ?_; (with_reducible refine (spec_More.calls (rd l0 x5_3) false _ A16.out).mono ?_); rintro e w' ⟨rfl, ⟨nd, rfl⟩⟩; refine ⟨_, rfl, ?_⟩))
                            go_ret
                            exact ⟨_, by first | rfl | (simp [errW_none, errW_some] <;> rfl) | (simp [*, errW_none, errW_some] <;> rfl), by (with_reducible repeat (first | apply Kd.R_alloc | apply Go.Proofs.Ytnjbobboookfmaa.Ext.R_bytes | apply Kd.R_drewN | apply Kd.R_drew)); exact HO179.out, by repeat (first | (with_reducible first | exact HB.out | apply below_alloc | apply Go.Proofs.Ytnjbobboookfmaa.Ext.below_bytes | apply pw_below_drewN | apply below_drew1) | exact HB.out)⟩
                        · rw [if_neg c15] at H
                          exact absurd H (by simp)
                      · rw [if_neg c13] at H
                        exact absurd H (by simp)
                    · rw [if_neg c12] at H
                      have c12b0 : decide (x5_3 < (l0.length : Int)) = false := decide_eq_false c12
                      clear c12
                      by_cases c20 : x7_3.length < 17592186044416
                      · rw [if_pos c20] at H
                        have LMc20 := Aside0.mk c20
                        clear c20
                        obtain ⟨y182, hy182⟩ : ∃ y_ : List Int, y_ = (x7_3 ++ [0]) := ⟨_, rfl⟩
                        replace H : (some y182) = some r := by first | (rw [hy182]; with_reducible exact H) | (have H2_ := (Option.bind_some _ _).symm.trans H; rw [hy182]; with_reducible exact H2_) | (have H2_ := (Option.bind_some _ _).symm.trans H; with_reducible exact H2_) | with_reducible exact H | (rw [hy182]; exact H) | exact H
                        have Ny182 := Aside0.mk hy182
                        clear hy182
                        obtain rfl := Option.some.inj H
                        go_wp2_with (first | ((with_reducible refine gate_builtin (b := .append) (xs := #[.tmp 57, .tmp 58]) rfl ?_); (try (refine gate_guard (by rfl) ?_; dsimp only)); at_builtin; refine Kd.R_append (Kd.int .i64) (w0 := w) w.heap.size rfl (.tmp 57) (.tmp 58) 41 2 (.int .i64 0) 8 rfl Try.underlying41 info2 rfl (by decide) (by omega) u7 x7_3 0 [.int .i64 0] (fun _ => True) (fun _ => False) rfl rfl ?aP (fun _ hk => hk.elim) ?aF ?aO ?aB ?aS ?aL ?_; (case aP => exact rfl); (case aB => exact (by repeat (first | (with_reducible first | exact HB.out | apply below_alloc | apply Go.Proofs.Ytnjbobboookfmaa.Ext.below_bytes | apply pw_below_drewN | apply below_drew1) | exact HB.out))); (case aF => exact (fun _ _ => trivial)); (case aO => exact (by (with_reducible repeat (first | apply Kd.R_alloc | apply Go.Proofs.Ytnjbobboookfmaa.Ext.R_bytes | apply Kd.R_drewN | apply Kd.R_drew)); exact HO_7.out)); (case aS => exact (below_size (by repeat (first | (with_reducible first | exact HB.out | apply below_alloc | apply Go.Proofs.Ytnjbobboookfmaa.Ext.below_bytes | apply pw_below_drewN | apply below_drew1) | exact HB.out)))); (case aL => have := LMc20.out; omega); intro v183 w21 ho hb hg hat; rw [← Ny182.out] at ho; have n0_ := Aside0.mk (hb); have n1_ := Aside0.mk (ho); clear HB; clear HO_7; have HB := n0_; have HO184 := n1_; clear n0_ n1_; clear ho hb hg hat))
                        go_ret
                        exact ⟨_, by first | rfl | (simp [errW_none, errW_some] <;> rfl) | (simp [*, errW_none, errW_some] <;> rfl), by (with_reducible repeat (first | apply Kd.R_alloc | apply Go.Proofs.Ytnjbobboookfmaa.Ext.R_bytes | apply Kd.R_drewN | apply Kd.R_drew)); exact HO184.out, by repeat (first | (with_reducible first | exact HB.out | apply below_alloc | apply Go.Proofs.Ytnjbobboookfmaa.Ext.below_bytes | apply pw_below_drewN | apply below_drew1) | exact HB.out)⟩
                      · rw [if_neg c20] at H
                        exact absurd H (by simp)
            · rw [if_neg c6] at H
              have c6b0 : decide (x5_2 < (wrap64 ((l0.length : Int) - 1))) = false := decide_eq_false c6
              clear c6
              have H' := Aside0.mk H
              clear H
              go_wp2
              go_loopg [5, 7] k2 (fun kq v5 v7 w' => ∃ (x5_3 : Int) (x7_3 : List Int), v5 = .int .i64 x5_3 ∧ Aside0 (spec_Subs.l1 kq l0 x5_3 x7_3 = some r) ∧ Aside0 (kq ≤ k2) ∧ Aside0 (Kd.R (Kd.int .i64) 2 w' w.heap.size (fun _ => True) v7 x7_3) ∧ Aside0 (Below w.heap.size w w'))
              case atStart => exact ⟨(x5_2), (([] : List Int)), (by first | rfl | (simp; done) | (simp [*]; done)), H', ⟨Nat.le_refl _⟩, ⟨by first | exact Kd.R_nil _ _ _ _ _ | exact Kd.N_nil _ _ _ _ _ | exact Kd.V_nil _ _ _ _ _ | exact Kd.Q_nil _ _ _ _ _ | exact Kd.S_nil _ _ _ _ _⟩, ⟨by repeat (first | (with_reducible first | exact HB.out | apply below_alloc | apply Go.Proofs.Ytnjbobboookfmaa.Ext.below_bytes | apply pw_below_drewN | apply below_drew1) | exact HB.out)⟩⟩
              case round =>
                clear H'
                try clear c1
                try clear p1
                try clear q1
                try clear hx1
                try clear c2
                try clear p2
                try clear c4
                try clear c4b0
                try clear c5
                try clear c6
                try clear c6b0
                try clear p6
                try clear c7
                try clear c7b0
                try clear c8
                try clear c8b0
                try clear c9
                try clear c9b0
                try clear c11
                try clear c12
                try clear c12b0
                try clear c13
                try clear c13b0
                try clear c15
                try clear c16
                try clear c17
                try clear p17
                try clear q17
                try clear hx17
                try clear p18
                try clear q18
                try clear hx18
                try clear c20
                try clear hx173_0
                try clear hx175_0
                try clear hx180_0
                try clear p1
                try clear p173
                try clear p175
                try clear p180
                try clear p2
                try clear p6
                try clear q1
                try clear q173
                try clear q175
                try clear q180
                obtain ⟨x5_3, x7_3, rfl, HA, HK3, HO_7, HB⟩ := hrel
                cases gk with
                | zero => exact absurd HA.out (by simp [spec_Subs.l1])
                | succ k3 =>
                  have H := HA.out
                  clear HA
                  simp only [spec_Subs.l1] at H
                  by_cases c22 : x5_3 < (l0.length : Int)
                  · rw [if_pos c22] at H
                    have c22b0 : decide (x5_3 < (l0.length : Int)) = true := decide_eq_true c22
                    clear c22
                    by_cases c23 : 0 ≤ x5_3
                    · rw [if_pos c23] at H
                      have c23b0 : decide (0 ≤ x5_3) = true := decide_eq_true c23
                      clear c23
                      replace H := Option.bind_eq_some_iff.mp H
                      obtain ⟨t176, A240, H⟩ := H
                      replace H : (if x7_3.length < 17592186044416 then ((some (x7_3 ++ [t176] : List Int)).bind fun y177 => ((spec_More.f (rd l0 x5_3)).bind fun t181 => (if t181 = true then (spec_Subs.l1 k3 l0 (wrap64 (x5_3 + 1)) y177) else (some y177)))) else (none)) = some r := H
                      have A24 := Aside0.mk A240
                      clear A240
                      by_cases c25 : x7_3.length < 17592186044416
                      · rw [if_pos c25] at H
                        have LMc25 := Aside0.mk c25
                        clear c25
                        obtain ⟨y177, hy177⟩ : ∃ y_ : List Int, y_ = (x7_3 ++ [t176]) := ⟨_, rfl⟩
                        replace H : ((spec_More.f (rd l0 x5_3)).bind fun t181 => (if t181 = true then (spec_Subs.l1 k3 l0 (wrap64 (x5_3 + 1)) y177) else (some y177))) = some r := by first | (rw [hy177]; with_reducible exact H) | (have H2_ := (Option.bind_some _ _).symm.trans H; rw [hy177]; with_reducible exact H2_) | (have H2_ := (Option.bind_some _ _).symm.trans H; with_reducible exact H2_) | with_reducible exact H | (rw [hy177]; exact H) | exact H
                        have Ny177 := Aside0.mk hy177
                        clear hy177
                        replace H := Option.bind_eq_some_iff.mp H
                        obtain ⟨t181, A260, H⟩ := H
                        replace H : (if t181 = true then (spec_Subs.l1 k3 l0 (wrap64 (x5_3 + 1)) y177) else (some y177)) = some r := H
                        have A26 := Aside0.mk A260
                        clear A260
                        by_cases c27 : t181 = true
                        · subst c27
                          have H1 : (spec_Subs.l1 k3 l0 (wrap64 (x5_3 + 1)) y177) = some r := by rw [if_pos rfl] at H; exact H
                          clear H
                          have H := H1
                          clear H1
                          have H' := Aside0.mk H
                          clear H
                          have p175 : 0 ≤ (x5_3 : Int) := of_decide_eq_true (by first | (with_reducible assumption) | assumption)
                          have q175 : x5_3 < (l0.length : Int) := of_decide_eq_true (by first | (with_reducible assumption) | assumption)
                          obtain ⟨ad175, e175, hx175_0⟩ := Kd.at_int HR0.out x5_3 p175 q175
                          cases e175
                          replace hx175_0 := (HB.out.cell (World.block_lt_of_cell? w _ hx175_0)).trans hx175_0
                          replace p175 := eq_true p175
                          replace q175 := eq_true q175
                          go_wp2_with (first | ((with_reducible refine gate_callee (f := 12) rfl ?_); refine goesL_ (some 47) rfl rfl Try.func12 (by kernel_rfl) rfl #[.int .i64 (rd l0 x5_3), .int .i64 0] rfl (by (try simp only [List.map_toArray, List.map_cons, List.map_nil]); first | done | rfl | (simp only [List.length_drop, List.length_take]; rfl) | (simp [Act.eval, *]; done) | (simp [Act.eval, *]; unfold wrap64; omega)) ?_; (with_reducible refine (spec_Or.calls (rd l0 x5_3) 0 t176 _ A24.out).mono ?_); rintro e w' ⟨rfl, ⟨nd, rfl⟩⟩; refine ⟨_, rfl, ?_⟩) | ((with_reducible refine gate_builtin (b := .append) (xs := #[.tmp 42, .tmp 48]) rfl ?_); (try (refine gate_guard (by rfl) ?_; dsimp only)); at_builtin; refine Kd.R_append (Kd.int .i64) (w0 := w) w.heap.size rfl (.tmp 42) (.tmp 48) 41 2 (.int .i64 0) 8 rfl Try.underlying41 info2 rfl (by decide) (by omega) u7 x7_3 t176 [.int .i64 t176] (fun _ => True) (fun _ => False) rfl rfl ?aP (fun _ hk => hk.elim) ?aF ?aO ?aB ?aS ?aL ?_; (case aP => exact rfl); (case aB => exact (by repeat (first | (with_reducible first | exact HB.out | apply below_alloc | apply Go.Proofs.Ytnjbobboookfmaa.Ext.below_bytes | apply pw_below_drewN | apply below_drew1) | exact HB.out))); (case aF => exact (fun _ _ => trivial)); (case aO => exact (by (with_reducible repeat (first | apply Kd.R_alloc | apply Go.Proofs.Ytnjbobboookfmaa.Ext.R_bytes | apply Kd.R_drewN | apply Kd.R_drew)); exact HO_7.out)); (case aS => exact (below_size (by repeat (first | (with_reducible first | exact HB.out | apply below_alloc | apply Go.Proofs.Ytnjbobboookfmaa.Ext.below_bytes | apply pw_below_drewN | apply below_drew1) | exact HB.out)))); (case aL => have := LMc25.out; omega); intro v178 w28 ho hb hg hat; rw [← Ny177.out] at ho; have n0_ := Aside0.mk (hb); have n1_ := Aside0.mk (ho); clear HB; clear HO_7; have HB := n0_; have HO179 := n1_; clear n0_ n1_; clear ho hb hg hat; have p180 : 0 ≤ (x5_3 : Int) := of_decide_eq_true (by first | (with_reducible assumption) | assumption); have q180 : x5_3 < (l0.length : Int) := of_decide_eq_true (by first | (with_reducible assumption) | assumption); obtain ⟨ad180, e180, hx180_0⟩ := Kd.at_int HR0.out x5_3 p180 q180; obtain rfl : ad175 = ad180 := (by injection e180); replace hx180_0 := (HB.out.cell (World.block_lt_of_cell? w _ hx180_0)).trans hx180_0; replace p180 := eq_true p180; replace q180 := eq_true q180) | ((with_reducible refine gate_callee (f := 13) rfl ?_); refine goesL_ (some 54) rfl rfl Try.func13 (by kernel_rfl) rfl #[.int .i64 (rd l0 x5_3)] rfl (by (try simp only [List.map_toArray, List.map_cons, List.map_nil]); first | done | rfl | (simp only [List.length_drop, List.length_take]; rfl) | (simp [Act.eval, *]; done) | (simp [Act.eval, *]; unfold wrap64; omega)) ?_; (with_reducible refine (spec_More.calls (rd l0 x5_3) true _ A26.out).mono ?_); rintro e w' ⟨rfl, ⟨nd, rfl⟩⟩; refine ⟨_, rfl, ?_⟩))
                          go_roundg k3
                          case measure => have := HJ2.out; have := HK2.out; have := HK3.out; omega
                          case rel => exact ⟨(wrap64 (x5_3 + 1)), (y177), (by first | rfl | (simp; done) | (simp [*]; done)), H', ⟨by have := HJ2.out; have := HK2.out; have := HK3.out; omega⟩, ⟨by (with_reducible repeat (first | apply Kd.R_alloc | apply Go.Proofs.Ytnjbobboookfmaa.Ext.R_bytes | apply Kd.R_drewN | apply Kd.R_drew)); exact HO179.out⟩, ⟨by repeat (first | (with_reducible first | exact HB.out | apply below_alloc | apply Go.Proofs.Ytnjbobboookfmaa.Ext.below_bytes | apply pw_below_drewN | apply below_drew1) | exact HB.out)⟩⟩
                        · replace c27 := Bool.eq_false_iff.mpr c27
                          subst c27
                          have H1 : (some y177) = some r := by rw [if_neg (show ¬ (false = true) by decide)] at H; exact H
                          clear H
                          have H := H1
                          clear H1
                          obtain rfl := Option.some.inj H
                          have p175 : 0 ≤ (x5_3 : Int) := of_decide_eq_true (by first | (with_reducible assumption) | assumption)
                          have q175 : x5_3 < (l0.length : Int) := of_decide_eq_true (by first | (with_reducible assumption) | assumption)
                          obtain ⟨ad175, e175, hx175_0⟩ := Kd.at_int HR0.out x5_3 p175 q175
                          cases e175
                          replace hx175_0 := (HB.out.cell (World.block_lt_of_cell? w _ hx175_0)).trans hx175_0
                          replace p175 := eq_true p175
                          replace q175 := eq_true q175
                          go_wp2_with (first | ((with_reducible refine gate_callee (f := 12) rfl ?_); refine goesL_ (some 47) rfl rfl Try.func12 (by kernel_rfl) rfl #[.int .i64 (rd l0 x5_3), .int .i64 0] rfl (by (try simp only [List.map_toArray, List.map_cons, List.map_nil]); first | done | rfl | (simp only [List.length_drop, List.length_take]; rfl) | (simp [Act.eval, *]; done) | (simp [Act.eval, *]; unfold wrap64; omega)) ?_; (with_reducible refine (spec_Or.calls (rd l0 x5_3) 0 t176 _ A24.out).mono ?_); rintro e w' ⟨rfl, ⟨nd, rfl⟩⟩; refine ⟨_, rfl, ?_⟩) | ((with_reducible refine gate_builtin (b := .append) (xs := #[.tmp 42, .tmp 48]) rfl ?_); (try (refine gate_guard (by rfl) ?_; dsimp only)); at_builtin; refine Kd.R_append (Kd.int .i64) (w0 := w) w.heap.size rfl (.tmp 42) (.tmp 48) 41 2 (.int .i64 0) 8 rfl Try.underlying41 info2 rfl (by decide) (by omega) u7 x7_3 t176 [.int .i64 t176] (fun _ => True) (fun _ => False) rfl rfl ?aP (fun _ hk => hk.elim) ?aF ?aO ?aB ?aS ?aL ?_; (case aP => exact rfl); (case aB => exact (by repeat (first | (with_reducible first | exact HB.out | apply below_alloc | apply Go.Proofs.Ytnjbobboookfmaa.Ext.below_bytes | apply pw_below_drewN | apply below_drew1) | exact HB.out))); (case aF => exact (fun _ _ => trivial)); (case aO => exact (by (with_reducible repeat (first | apply Kd.R_alloc | apply Go.Proofs.Ytnjbobboookfmaa.Ext.R_bytes | apply Kd.R_drewN | apply Kd.R_drew)); exact HO_7.out)); (case aS => exact (below_size (by repeat (first | (with_reducible first | exact HB.out | apply below_alloc | apply Go.Proofs.Ytnjbobboookfmaa.Ext.below_bytes | apply pw_below_drewN | apply below_drew1) | exact HB.out)))); (case aL => have := LMc25.out; omega); intro v178 w29 ho hb hg hat; rw [← Ny177.out] at ho; have n0_ := Aside0.mk (hb); have n1_ := Aside0.mk (ho); clear HB; clear HO_7; have HB := n0_; have HO179 := n1_; clear n0_ n1_; clear ho hb hg hat; have p180 : 0 ≤ (x5_3 : Int) := of_decide_eq_true (by first | (with_reducible assumption) | assumption); have q180 : x5_3 < (l0.length : Int) := of_decide_eq_true (by first | (with_reducible assumption) | assumption); obtain ⟨ad180, e180, hx180_0⟩ := Kd.at_int HR0.out x5_3 p180 q180; obtain rfl : ad175 = ad180 := (by injection e180); replace hx180_0 := (HB.out.cell (World.block_lt_of_cell? w _ hx180_0)).trans hx180_0; replace p180 := eq_true p180; replace q180 := eq_true q180) | ((with_reducible refine gate_callee (f := 13) rfl ?_); refine goesL_ (some 54) rfl rfl Try.func13 (by kernel_rfl) rfl #[.int .i64 (rd l0 x5_3)] rfl (by (try simp only [List.map_toArray, List.map_cons, List.map_nil]); first | done | rfl | (simp only [List.length_drop, List.length_take]; rfl) | (simp [Act.eval, *]; done) | (simp [Act.eval, *]; unfold wrap64; omega)) ?_; (with_reducible refine (spec_More.calls (rd l0 x5_3) false _ A26.out).mono ?_); rintro e w' ⟨rfl, ⟨nd, rfl⟩⟩; refine ⟨_, rfl, ?_⟩))
                          go_ret
                          exact ⟨_, by first | rfl | (simp [errW_none, errW_some] <;> rfl) | (simp [*, errW_none, errW_some] <;> rfl), by (with_reducible repeat (first | apply Kd.R_alloc | apply Go.Proofs.Ytnjbobboookfmaa.Ext.R_bytes | apply Kd.R_drewN | apply Kd.R_drew)); exact HO179.out, by repeat (first | (with_reducible first | exact HB.out | apply below_alloc | apply Go.Proofs.Ytnjbobboookfmaa.Ext.below_bytes | apply pw_below_drewN | apply below_drew1) | exact HB.out)⟩
                      · rw [if_neg c25] at H
                        exact absurd H (by simp)
                    · rw [if_neg c23] at H
                      exact absurd H (by simp)
                  · rw [if_neg c22] at H
                    have c22b0 : decide (x5_3 < (l0.length : Int)) = false := decide_eq_false c22
                    clear c22
                    by_cases c30 : x7_3.length < 17592186044416
                    · rw [if_pos c30] at H
                      have LMc30 := Aside0.mk c30
                      clear c30
                      obtain ⟨y182, hy182⟩ : ∃ y_ : List Int, y_ = (x7_3 ++ [0]) := ⟨_, rfl⟩
                      replace H : (some y182) = some r := by first | (rw [hy182]; with_reducible exact H) | (have H2_ := (Option.bind_some _ _).symm.trans H; rw [hy182]; with_reducible exact H2_) | (have H2_ := (Option.bind_some _ _).symm.trans H; with_reducible exact H2_) | with_reducible exact H | (rw [hy182]; exact H) | exact H
                      have Ny182 := Aside0.mk hy182
                      clear hy182
                      obtain rfl := Option.some.inj H
                      go_wp2_with (first | ((with_reducible refine gate_builtin (b := .append) (xs := #[.tmp 57, .tmp 58]) rfl ?_); (try (refine gate_guard (by rfl) ?_; dsimp only)); at_builtin; refine Kd.R_append (Kd.int .i64) (w0 := w) w.heap.size rfl (.tmp 57) (.tmp 58) 41 2 (.int .i64 0) 8 rfl Try.underlying41 info2 rfl (by decide) (by omega) u7 x7_3 0 [.int .i64 0] (fun _ => True) (fun _ => False) rfl rfl ?aP (fun _ hk => hk.elim) ?aF ?aO ?aB ?aS ?aL ?_; (case aP => exact rfl); (case aB => exact (by repeat (first | (with_reducible first | exact HB.out | apply below_alloc | apply Go.Proofs.Ytnjbobboookfmaa.Ext.below_bytes | apply pw_below_drewN | apply below_drew1) | exact HB.out))); (case aF => exact (fun _ _ => trivial)); (case aO => exact (by (with_reducible repeat (first | apply Kd.R_alloc | apply Go.Proofs.Ytnjbobboookfmaa.Ext.R_bytes | apply Kd.R_drewN | apply Kd.R_drew)); exact HO_7.out)); (case aS => exact (below_size (by repeat (first | (with_reducible first | exact HB.out | apply below_alloc | apply Go.Proofs.Ytnjbobboookfmaa.Ext.below_bytes | apply pw_below_drewN | apply below_drew1) | exact HB.out)))); (case aL => have := LMc30.out; omega); intro v183 w31 ho hb hg hat; rw [← Ny182.out] at ho; have n0_ := Aside0.mk (hb); have n1_ := Aside0.mk (ho); clear HB; clear HO_7; have HB := n0_; have HO184 := n1_; clear n0_ n1_; clear ho hb hg hat))
                      go_ret
                      exact ⟨_, by first | rfl | (simp [errW_none, errW_some] <;> rfl) | (simp [*, errW_none, errW_some] <;> rfl), by (with_reducible repeat (first | apply Kd.R_alloc | apply Go.Proofs.Ytnjbobboookfmaa.Ext.R_bytes | apply Kd.R_drewN | apply Kd.R_drew)); exact HO184.out, by repeat (first | (with_reducible first | exact HB.out | apply below_alloc | apply Go.Proofs.Ytnjbobboookfmaa.Ext.below_bytes | apply pw_below_drewN | apply below_drew1) | exact HB.out)⟩
                    · rw [if_neg c30] at H
                      exact absurd H (by simp)

end Go.Proofs.Ytnjbobboookfmaa.PE
