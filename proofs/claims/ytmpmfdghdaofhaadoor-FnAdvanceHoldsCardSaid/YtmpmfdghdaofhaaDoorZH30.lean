/- Texts of this claim, joined; what isn't needed is left out (wip/slim.py). -/
import Derived.Test.YtmpmfdghdaofhaaDoorProg
import Derived.Below
import Derived.Deep.Draws
import Derived.Deep.AppendLies
import Derived.Maps.AppendAt
import Derived.OwnWalk
import Derived.Laws.BytesArg
import Derived.Laws.MakeOwn
import Derived.Laws.OwnMore
import Derived.Deep.OwnRows
import Derived.Tactics
import Derived.Lib.ConvBytes
import Derived.Laws.Slices
import Derived.WalkKit
import Derived.KernelRfl
import Derived.RowKit3
import Derived.Deep.LoopGhost
import Derived.Deep.QuietTactic
import Derived.BigQuiet
import Derived.WideLaws
import Derived.Deep.DeepCutAuto
import Derived.Deep.CutBlock
import Derived.Deep.RegionHeld3
import Derived.Laws.Rows
import Derived.Lib.AppendStr
import Derived.ArgAppend
import Derived.Laws.IdiomCopy
import Derived.OrdersHeld
import Derived.Laws.BitsLemmas
import Derived.RowKit
import Derived.Test.YtmpmfdghdaofhaaDoorZH0
import Derived.Test.YtmpmfdghdaofhaaDoorZH4
import Derived.Laws.Runes
import Derived.Test.YtmpmfdghdaofhaaDoorZH1
import Derived.Test.YtmpmfdghdaofhaaDoorZH2
import Derived.Test.YtmpmfdghdaofhaaDoorZH5
import Derived.Test.YtmpmfdghdaofhaaDoorZH3
import Derived.Laws.StructEq
import Derived.Test.YtmpmfdghdaofhaaDoorZH6
import Derived.Test.YtmpmfdghdaofhaaDoorZH7
namespace Go.Proofs.YtmpmfdghdaofhaaDoor.PK
open Go.RowKit Go.Proofs.YtmpmfdghdaofhaaDoorW.PrintWords Go.Proofs.YtmpmfdghdaofhaaDoorW.PrintLast Go.Proofs.YtmpmfdghdaofhaaDoorW.PrintMore
attribute [local go_sem] max2_int min2_int max_two min_two max_three min_three max_four min_four
attribute [local go_sem] Ext.wrap64_mod256 Ext.wrap64_mod32 Ext.i64_mod256 Ext.i64_mod32 Ext.i64_u8 Ext.w64_u8 Ext.i64_u32 Ext.w64_u32
set_option linter.unusedVariables false
set_option linter.unusedSimpArgs false
def errW : Option Int → Value
  | none => .nilIface
  | some c => .iface 0 (.int .i64 c)
theorem errW_none : errW none = .nilIface := rfl
theorem errW_some (c : Int) : errW (some c) = .iface 0 (.int .i64 c) := rfl
end Go.Proofs.YtmpmfdghdaofhaaDoor.PK

namespace Go.Proofs.YtmpmfdghdaofhaaDoor.PK
open Go.RowKit Go.Proofs.YtmpmfdghdaofhaaDoorW.PrintWords Go.Proofs.YtmpmfdghdaofhaaDoorW.PrintLast Go.Proofs.YtmpmfdghdaofhaaDoorW.PrintMore
attribute [local go_sem] max2_int min2_int max_two min_two max_three min_three max_four min_four
attribute [local go_sem] Ext.wrap64_mod256 Ext.wrap64_mod32 Ext.i64_mod256 Ext.i64_mod32 Ext.i64_u8 Ext.w64_u8 Ext.i64_u32 Ext.w64_u32
set_option linter.unusedVariables false
set_option linter.unusedSimpArgs false
def spec_within.f (a0 : Int) (a1 : Int) (a2 : Int) : Option (Bool) := if a1 ≤ a0 then (some (decide (a0 ≤ a2))) else (some false)
set_option maxHeartbeats 8000000 in
set_option maxRecDepth 100000 in
theorem spec_within.calls (a0 : Int) (a1 : Int) (a2 : Int) (r : Bool) (w : World) (h : spec_within.f a0 a1 a2 = some r) :
    Calls Tryd.prog 21 #[.int .u8 a0, .int .u8 a1, .int .u8 a2] w fun e w' => e = .returned (.bool r) ∧ Drawn0 w w' := by
  have H : (if a1 ≤ a0 then (some (decide (a0 ≤ a2))) else (some false)) = some r := h
  clear h
  by_cases c4 : a1 ≤ a0
  · rw [if_pos c4] at H
    have c4b0 : decide (a1 ≤ a0) = true := decide_eq_true c4
    clear c4
    obtain rfl := Option.some.inj H
    go_enter Tryd.func21, Tryd.ntmps21
    go_wp2
    go_ret
    exact ⟨by first | rfl | (simp; done) | (simp [*]; done), by repeat (first | exact Drawn0.refl _ | apply Drawn0.step)⟩
  · rw [if_neg c4] at H
    have c4b0 : decide (a1 ≤ a0) = false := decide_eq_false c4
    clear c4
    obtain rfl := Option.some.inj H
    go_enter Tryd.func21, Tryd.ntmps21
    go_wp2
    go_ret
    exact ⟨by first | rfl | (simp; done) | (simp [*]; done), by repeat (first | exact Drawn0.refl _ | apply Drawn0.step)⟩
def spec_anywhere.j0 : Nat → Int → Bool → Option (Int × Int × Bool)
  | 0, _, _ => none
  | k + 1, x0, x5 => if x5 = true then (some (0, 5, true)) else (if x0 = 27 then (some (8, 1, true)) else (if x0 < 128 then (some (0, 0, false)) else (if x0 = 144 then (some (4, 1, true)) else (if x0 = 152 then (some (11, 6, true)) else (if x0 = 155 then (some (1, 1, true)) else (if x0 = 157 then (some (10, 6, true)) else (if x0 = 158 then (some (12, 6, true)) else (if x0 = 159 then (some (13, 6, true)) else (if x0 < 160 then (some (0, 5, true)) else ((spec_within.f x0 194 244).bind fun t101 => (if t101 = true then (some (14, 2, true)) else (some (0, 0, true)))))))))))))
def spec_anywhere.f (k : Nat) (a0 : Int) : Option (Int × Int × Bool) := if a0 = 24 then (spec_anywhere.j0 k a0 true) else (spec_anywhere.j0 k a0 (a0 == 26))
theorem spec_anywhere.mono_l : ∀ k, (∀ y0 y1, LeO (spec_anywhere.j0 k y0 y1) (spec_anywhere.j0 (k + 1) y0 y1))
  | 0 => fun _ _ r h => by simp [spec_anywhere.j0] at h
  | k + 1 => by
    have ih0 := spec_anywhere.mono_l k
    · intro y0 y1
      unfold spec_anywhere.j0
      repeat' first
      | (with_reducible exact ih0 _ _)
      | (with_reducible exact LeO.refl _)
      | (with_reducible exact LeO.none _)
      | (with_reducible refine LeO.ite ?_ ?_)
      | (with_reducible refine LeO.bind ?_ (fun _ => ?_))
      | exact ih0 _ _
      | exact LeO.none _
      | refine LeO.ite ?_ ?_
      | refine LeO.bind ?_ (fun _ => ?_)
theorem spec_anywhere.mono : ∀ a0 k, LeO (spec_anywhere.f k a0) (spec_anywhere.f (k + 1) a0) := by
  intro a0 k
  have ih0 := spec_anywhere.mono_l k
  unfold spec_anywhere.f
  repeat' first
      | (with_reducible exact ih0 _ _)
      | (with_reducible exact LeO.refl _)
      | (with_reducible exact LeO.none _)
      | (with_reducible refine LeO.ite ?_ ?_)
      | (with_reducible refine LeO.bind ?_ (fun _ => ?_))
      | exact ih0 _ _
      | exact LeO.none _
      | refine LeO.ite ?_ ?_
      | refine LeO.bind ?_ (fun _ => ?_)
set_option maxHeartbeats 8000000 in
set_option maxRecDepth 100000 in
theorem spec_anywhere.calls (k : Nat) (a0 : Int) (r1 : Int) (r2 : Int) (r3 : Bool) (w : World) (h : spec_anywhere.f k a0 = some (r1, r2, r3)) :
    Calls Tryd.prog 22 #[.int .u8 a0] w fun e w' => e = .returned (.tuple #[.int .i64 r1, .int .i64 r2, .bool r3]) ∧ Drawn0 w w' := by
  have H : (if a0 = 24 then (spec_anywhere.j0 k a0 true) else (spec_anywhere.j0 k a0 (a0 == 26))) = some (r1, r2, r3) := h
  clear h
  have HC2 := Aside0.mk H
  clear H
  go_enter Tryd.func22, Tryd.ntmps22
  go_upto_region 1 with (fail)
  go_cut [5] (fun v5 wc => ∃ (kq : Nat) (x5_1 : Bool), v5 = .bool x5_1 ∧ Aside0 (spec_anywhere.j0 kq a0 x5_1 = some (r1, r2, r3)) ∧ Aside0 (kq ≤ k) ∧ Drawn0 w wc)
  case first =>
    have H := HC2.out
    clear HC2
    by_cases c3 : a0 = 24
    · rw [if_pos c3] at H
      have c3b0 : (a0 == 24) = true := beq_iff_eq.mpr c3
      have c3b1 : (a0 != 24) = false := bne_eq_false_iff_eq.mpr c3
      clear c3
      (first | rw [c3b0] | (simp only [i64_w, i32_w]; rw [c3b0]) | skip)
      have H' := Aside0.mk H
      clear H
      go_wp2
      go_meet
      case rel => exact ⟨_, (true), (by first | rfl | (simp; done) | (simp [*]; done)), H', ⟨by first | omega | exact Nat.le_refl _⟩, by repeat (first | exact Drawn0.refl _ | apply Drawn0.step)⟩
    · rw [if_neg c3] at H
      have c3b0 : (a0 == 24) = false := beq_eq_false_iff_ne.mpr c3
      have c3b1 : (a0 != 24) = true := bne_iff_ne.mpr c3
      (first | rw [c3b0] | (simp only [i64_w, i32_w]; rw [c3b0]) | skip)
      have H' := Aside0.mk H
      clear H
      go_wp2
      go_meet
      case rel => exact ⟨_, ((a0 == 26)), (by first | rfl | (simp; done) | (simp [*]; done)), H', ⟨by first | omega | exact Nat.le_refl _⟩, by repeat (first | exact Drawn0.refl _ | apply Drawn0.step)⟩
  case rest =>
    clear HC2
    try clear c2
    try clear p2
    try clear c3
    try clear c3b0
    try clear c3b1
    obtain ⟨kq, x5_1, rfl, HA, HJ1, ⟨mc1, rfl⟩⟩ := hcut
    cases kq with
    | zero => exact absurd HA.out (by simp [spec_anywhere.j0])
    | succ kj1 =>
      have H := HA.out
      clear HA
      simp only [spec_anywhere.j0] at H
      by_cases c4 : x5_1 = true
      · subst c4
        have H1 : (some (0, 5, true)) = some (r1, r2, r3) := by rw [if_pos rfl] at H; exact H
        clear H
        have H := H1
        clear H1
        simp only [Option.some.injEq, Prod.mk.injEq] at H
        obtain ⟨rfl, rfl, rfl⟩ := H
        go_wp2
        go_ret3
        exact ⟨by first | rfl | (simp; done) | (simp [*]; done), by repeat (first | exact Drawn0.refl _ | apply Drawn0.step)⟩
      · replace c4 := Bool.eq_false_iff.mpr c4
        subst c4
        have H1 : (if a0 = 27 then (some (8, 1, true)) else (if a0 < 128 then (some (0, 0, false)) else (if a0 = 144 then (some (4, 1, true)) else (if a0 = 152 then (some (11, 6, true)) else (if a0 = 155 then (some (1, 1, true)) else (if a0 = 157 then (some (10, 6, true)) else (if a0 = 158 then (some (12, 6, true)) else (if a0 = 159 then (some (13, 6, true)) else (if a0 < 160 then (some (0, 5, true)) else ((spec_within.f a0 194 244).bind fun t101 => (if t101 = true then (some (14, 2, true)) else (some (0, 0, true))))))))))))) = some (r1, r2, r3) := by rw [if_neg (show ¬ (false = true) by decide)] at H; exact H
        clear H
        have H := H1
        clear H1
        by_cases c5 : a0 = 27
        · rw [if_pos c5] at H
          have c5b0 : (a0 == 27) = true := beq_iff_eq.mpr c5
          have c5b1 : (a0 != 27) = false := bne_eq_false_iff_eq.mpr c5
          clear c5
          simp only [Option.some.injEq, Prod.mk.injEq] at H
          obtain ⟨rfl, rfl, rfl⟩ := H
          go_wp2
          go_ret3
          exact ⟨by first | rfl | (simp; done) | (simp [*]; done), by repeat (first | exact Drawn0.refl _ | apply Drawn0.step)⟩
        · rw [if_neg c5] at H
          have c5b0 : (a0 == 27) = false := beq_eq_false_iff_ne.mpr c5
          have c5b1 : (a0 != 27) = true := bne_iff_ne.mpr c5
          by_cases c6 : a0 < 128
          · rw [if_pos c6] at H
            have c6b0 : decide (a0 < 128) = true := decide_eq_true c6
            clear c6
            simp only [Option.some.injEq, Prod.mk.injEq] at H
            obtain ⟨rfl, rfl, rfl⟩ := H
            go_wp2
            go_ret3
            exact ⟨by first | rfl | (simp; done) | (simp [*]; done), by repeat (first | exact Drawn0.refl _ | apply Drawn0.step)⟩
          · rw [if_neg c6] at H
            have c6b0 : decide (a0 < 128) = false := decide_eq_false c6
            clear c6
            by_cases c7 : a0 = 144
            · rw [if_pos c7] at H
              have c7b0 : (a0 == 144) = true := beq_iff_eq.mpr c7
              have c7b1 : (a0 != 144) = false := bne_eq_false_iff_eq.mpr c7
              clear c7
              simp only [Option.some.injEq, Prod.mk.injEq] at H
              obtain ⟨rfl, rfl, rfl⟩ := H
              go_wp2
              go_ret3
              exact ⟨by first | rfl | (simp; done) | (simp [*]; done), by repeat (first | exact Drawn0.refl _ | apply Drawn0.step)⟩
            · rw [if_neg c7] at H
              have c7b0 : (a0 == 144) = false := beq_eq_false_iff_ne.mpr c7
              have c7b1 : (a0 != 144) = true := bne_iff_ne.mpr c7
              by_cases c8 : a0 = 152
              · rw [if_pos c8] at H
                have c8b0 : (a0 == 152) = true := beq_iff_eq.mpr c8
                have c8b1 : (a0 != 152) = false := bne_eq_false_iff_eq.mpr c8
                clear c8
                simp only [Option.some.injEq, Prod.mk.injEq] at H
                obtain ⟨rfl, rfl, rfl⟩ := H
                go_wp2
                go_ret3
                exact ⟨by first | rfl | (simp; done) | (simp [*]; done), by repeat (first | exact Drawn0.refl _ | apply Drawn0.step)⟩
              · rw [if_neg c8] at H
                have c8b0 : (a0 == 152) = false := beq_eq_false_iff_ne.mpr c8
                have c8b1 : (a0 != 152) = true := bne_iff_ne.mpr c8
                by_cases c9 : a0 = 155
                · rw [if_pos c9] at H
                  have c9b0 : (a0 == 155) = true := beq_iff_eq.mpr c9
                  have c9b1 : (a0 != 155) = false := bne_eq_false_iff_eq.mpr c9
                  clear c9
                  simp only [Option.some.injEq, Prod.mk.injEq] at H
                  obtain ⟨rfl, rfl, rfl⟩ := H
                  go_wp2
                  go_ret3
                  exact ⟨by first | rfl | (simp; done) | (simp [*]; done), by repeat (first | exact Drawn0.refl _ | apply Drawn0.step)⟩
                · rw [if_neg c9] at H
                  have c9b0 : (a0 == 155) = false := beq_eq_false_iff_ne.mpr c9
                  have c9b1 : (a0 != 155) = true := bne_iff_ne.mpr c9
                  by_cases c10 : a0 = 157
                  · rw [if_pos c10] at H
                    have c10b0 : (a0 == 157) = true := beq_iff_eq.mpr c10
                    have c10b1 : (a0 != 157) = false := bne_eq_false_iff_eq.mpr c10
                    clear c10
                    simp only [Option.some.injEq, Prod.mk.injEq] at H
                    obtain ⟨rfl, rfl, rfl⟩ := H
                    go_wp2
                    go_ret3
                    exact ⟨by first | rfl | (simp; done) | (simp [*]; done), by repeat (first | exact Drawn0.refl _ | apply Drawn0.step)⟩
                  · rw [if_neg c10] at H
                    have c10b0 : (a0 == 157) = false := beq_eq_false_iff_ne.mpr c10
                    have c10b1 : (a0 != 157) = true := bne_iff_ne.mpr c10
                    by_cases c11 : a0 = 158
                    · rw [if_pos c11] at H
                      have c11b0 : (a0 == 158) = true := beq_iff_eq.mpr c11
                      have c11b1 : (a0 != 158) = false := bne_eq_false_iff_eq.mpr c11
                      clear c11
                      simp only [Option.some.injEq, Prod.mk.injEq] at H
                      obtain ⟨rfl, rfl, rfl⟩ := H
                      go_wp2
                      go_ret3
                      exact ⟨by first | rfl | (simp; done) | (simp [*]; done), by repeat (first | exact Drawn0.refl _ | apply Drawn0.step)⟩
                    · rw [if_neg c11] at H
                      have c11b0 : (a0 == 158) = false := beq_eq_false_iff_ne.mpr c11
                      have c11b1 : (a0 != 158) = true := bne_iff_ne.mpr c11
                      by_cases c12 : a0 = 159
                      · rw [if_pos c12] at H
                        have c12b0 : (a0 == 159) = true := beq_iff_eq.mpr c12
                        have c12b1 : (a0 != 159) = false := bne_eq_false_iff_eq.mpr c12
                        clear c12
                        simp only [Option.some.injEq, Prod.mk.injEq] at H
                        obtain ⟨rfl, rfl, rfl⟩ := H
                        go_wp2
                        go_ret3
                        exact ⟨by first | rfl | (simp; done) | (simp [*]; done), by repeat (first | exact Drawn0.refl _ | apply Drawn0.step)⟩
                      · rw [if_neg c12] at H
                        have c12b0 : (a0 == 159) = false := beq_eq_false_iff_ne.mpr c12
                        have c12b1 : (a0 != 159) = true := bne_iff_ne.mpr c12
                        by_cases c13 : a0 < 160
                        · rw [if_pos c13] at H
                          have c13b0 : decide (a0 < 160) = true := decide_eq_true c13
                          clear c13
                          simp only [Option.some.injEq, Prod.mk.injEq] at H
                          obtain ⟨rfl, rfl, rfl⟩ := H
                          go_wp2
                          go_ret3
                          exact ⟨by first | rfl | (simp; done) | (simp [*]; done), by repeat (first | exact Drawn0.refl _ | apply Drawn0.step)⟩
                        · rw [if_neg c13] at H
                          have c13b0 : decide (a0 < 160) = false := decide_eq_false c13
                          clear c13
                          replace H := Option.bind_eq_some_iff.mp H
                          obtain ⟨t101, A140, H⟩ := H
                          replace H : (if t101 = true then (some (14, 2, true)) else (some (0, 0, true))) = some (r1, r2, r3) := H
                          have A14 := Aside0.mk A140
                          clear A140
                          by_cases c15 : t101 = true
                          · subst c15
                            have H1 : (some (14, 2, true)) = some (r1, r2, r3) := by rw [if_pos rfl] at H; exact H
                            clear H
                            have H := H1
                            clear H1
                            simp only [Option.some.injEq, Prod.mk.injEq] at H
                            obtain ⟨rfl, rfl, rfl⟩ := H
                            go_wp2_with (first | ((with_reducible refine gate_callee (f := 21) rfl ?_); refine goesL_ (some 41) rfl rfl Tryd.func21 (by kernel_rfl) rfl #[.int .u8 a0, .int .u8 194, .int .u8 244] rfl (by (try simp only [List.map_toArray, List.map_cons, List.map_nil]); first | done | rfl | (simp only [List.length_drop, List.length_take]; rfl) | (simp [Act.eval, *]; done) | (simp [Act.eval, *]; unfold wrap64; omega)) ?_; (with_reducible refine (spec_within.calls a0 194 244 true _ A14.out).mono ?_); rintro e w' ⟨rfl, ⟨nd, rfl⟩⟩; refine ⟨_, rfl, ?_⟩))
                            go_ret3
                            exact ⟨by first | rfl | (simp; done) | (simp [*]; done), by repeat (first | exact Drawn0.refl _ | apply Drawn0.step)⟩
                          · replace c15 := Bool.eq_false_iff.mpr c15
                            subst c15
                            have H1 : (some (0, 0, true)) = some (r1, r2, r3) := by rw [if_neg (show ¬ (false = true) by decide)] at H; exact H
                            clear H
                            have H := H1
                            clear H1
                            simp only [Option.some.injEq, Prod.mk.injEq] at H
                            obtain ⟨rfl, rfl, rfl⟩ := H
                            go_wp2_with (first | ((with_reducible refine gate_callee (f := 21) rfl ?_); refine goesL_ (some 41) rfl rfl Tryd.func21 (by kernel_rfl) rfl #[.int .u8 a0, .int .u8 194, .int .u8 244] rfl (by (try simp only [List.map_toArray, List.map_cons, List.map_nil]); first | done | rfl | (simp only [List.length_drop, List.length_take]; rfl) | (simp [Act.eval, *]; done) | (simp [Act.eval, *]; unfold wrap64; omega)) ?_; (with_reducible refine (spec_within.calls a0 194 244 false _ A14.out).mono ?_); rintro e w' ⟨rfl, ⟨nd, rfl⟩⟩; refine ⟨_, rfl, ?_⟩))
                            go_ret3
                            exact ⟨by first | rfl | (simp; done) | (simp [*]; done), by repeat (first | exact Drawn0.refl _ | apply Drawn0.step)⟩
mutual
def spec_inString.j2 : Nat → Int → Int → Option (Int × Int)
  | 0, _, _ => none
  | k + 1, x0, x1 => if x0 = 7 then (spec_inString.j3 k x0 x1 false) else (spec_inString.j3 k x0 x1 (x0 != 10))
def spec_inString.j3 : Nat → Int → Int → Bool → Option (Int × Int)
  | 0, _, _, _ => none
  | k + 1, x0, x1, x44 => if x44 = true then ((spec_anywhere.f k x1).bind fun bt102 => (if bt102.2.2 = true then (some (bt102.1, bt102.2.1)) else (some (x0, 7)))) else (some (x0, 7))
def spec_inString.j0 : Nat → Int → Int → Bool → Option (Int × Int)
  | 0, _, _, _ => none
  | k + 1, x0, x1, x12 => if x12 = true then (some (0, 0)) else (if x1 = 27 then (some (8, 4)) else (if x1 = 156 then (spec_inString.j1 k x0 x1 (x1 == 156)) else (if x0 = 10 then (spec_inString.j1 k x0 x1 (x1 == 7)) else (spec_inString.j1 k x0 x1 false))))
def spec_inString.j1 : Nat → Int → Int → Bool → Option (Int × Int)
  | 0, _, _, _ => none
  | k + 1, x0, x1, x22 => if x22 = true then (some (0, 4)) else (if x0 = 10 then (if x1 < 32 then (some (x0, 0)) else (spec_inString.j2 k x0 x1)) else (spec_inString.j2 k x0 x1))
end
def spec_inString.f (k : Nat) (a0 : Int) (a1 : Int) : Option (Int × Int) := if a0 ≥ 15 then (some (0, 0)) else (if a1 = 24 then (spec_inString.j0 k a0 a1 true) else (spec_inString.j0 k a0 a1 (a1 == 26)))
theorem spec_inString.mono_l : ∀ k, (∀ y0 y1, LeO (spec_inString.j2 k y0 y1) (spec_inString.j2 (k + 1) y0 y1)) ∧ (∀ y0 y1 y2, LeO (spec_inString.j3 k y0 y1 y2) (spec_inString.j3 (k + 1) y0 y1 y2)) ∧ (∀ y0 y1 y2, LeO (spec_inString.j0 k y0 y1 y2) (spec_inString.j0 (k + 1) y0 y1 y2)) ∧ (∀ y0 y1 y2, LeO (spec_inString.j1 k y0 y1 y2) (spec_inString.j1 (k + 1) y0 y1 y2))
  | 0 => ⟨fun _ _ r h => by simp [spec_inString.j2] at h, fun _ _ _ r h => by simp [spec_inString.j3] at h, fun _ _ _ r h => by simp [spec_inString.j0] at h, fun _ _ _ r h => by simp [spec_inString.j1] at h⟩
  | k + 1 => by
    obtain ⟨ih0, ih1, ih2, ih3⟩ := spec_inString.mono_l k
    refine ⟨?_, ?_, ?_, ?_⟩
    · intro y0 y1
      unfold spec_inString.j2
      repeat' first
      | (with_reducible exact ih0 _ _)
      | (with_reducible exact ih1 _ _ _)
      | (with_reducible exact ih2 _ _ _)
      | (with_reducible exact ih3 _ _ _)
      | (with_reducible exact spec_anywhere.mono _ _)
      | (with_reducible exact LeO.refl _)
      | (with_reducible exact LeO.none _)
      | (with_reducible refine LeO.ite ?_ ?_)
      | (with_reducible refine LeO.bind ?_ (fun _ => ?_))
      | exact ih0 _ _
      | exact ih1 _ _ _
      | exact ih2 _ _ _
      | exact ih3 _ _ _
      | exact spec_anywhere.mono _ _
      | exact LeO.none _
      | refine LeO.ite ?_ ?_
      | refine LeO.bind ?_ (fun _ => ?_)
    · intro y0 y1 y2
      unfold spec_inString.j3
      repeat' first
      | (with_reducible exact ih0 _ _)
      | (with_reducible exact ih1 _ _ _)
      | (with_reducible exact ih2 _ _ _)
      | (with_reducible exact ih3 _ _ _)
      | (with_reducible exact spec_anywhere.mono _ _)
      | (with_reducible exact LeO.refl _)
      | (with_reducible exact LeO.none _)
      | (with_reducible refine LeO.ite ?_ ?_)
      | (with_reducible refine LeO.bind ?_ (fun _ => ?_))
      | exact ih0 _ _
      | exact ih1 _ _ _
      | exact ih2 _ _ _
      | exact ih3 _ _ _
      | exact spec_anywhere.mono _ _
      | exact LeO.none _
      | refine LeO.ite ?_ ?_
      | refine LeO.bind ?_ (fun _ => ?_)
    · intro y0 y1 y2
      unfold spec_inString.j0
      repeat' first
      | (with_reducible exact ih0 _ _)
      | (with_reducible exact ih1 _ _ _)
      | (with_reducible exact ih2 _ _ _)
      | (with_reducible exact ih3 _ _ _)
      | (with_reducible exact spec_anywhere.mono _ _)
      | (with_reducible exact LeO.refl _)
      | (with_reducible exact LeO.none _)
      | (with_reducible refine LeO.ite ?_ ?_)
      | (with_reducible refine LeO.bind ?_ (fun _ => ?_))
      | exact ih0 _ _
      | exact ih1 _ _ _
      | exact ih2 _ _ _
      | exact ih3 _ _ _
      | exact spec_anywhere.mono _ _
      | exact LeO.none _
      | refine LeO.ite ?_ ?_
      | refine LeO.bind ?_ (fun _ => ?_)
    · intro y0 y1 y2
      unfold spec_inString.j1
      repeat' first
      | (with_reducible exact ih0 _ _)
      | (with_reducible exact ih1 _ _ _)
      | (with_reducible exact ih2 _ _ _)
      | (with_reducible exact ih3 _ _ _)
      | (with_reducible exact spec_anywhere.mono _ _)
      | (with_reducible exact LeO.refl _)
      | (with_reducible exact LeO.none _)
      | (with_reducible refine LeO.ite ?_ ?_)
      | (with_reducible refine LeO.bind ?_ (fun _ => ?_))
      | exact ih0 _ _
      | exact ih1 _ _ _
      | exact ih2 _ _ _
      | exact ih3 _ _ _
      | exact spec_anywhere.mono _ _
      | exact LeO.none _
      | refine LeO.ite ?_ ?_
      | refine LeO.bind ?_ (fun _ => ?_)
theorem spec_inString.mono : ∀ a0 a1 k, LeO (spec_inString.f k a0 a1) (spec_inString.f (k + 1) a0 a1) := by
  intro a0 a1 k
  obtain ⟨ih0, ih1, ih2, ih3⟩ := spec_inString.mono_l k
  unfold spec_inString.f
  repeat' first
      | (with_reducible exact ih0 _ _)
      | (with_reducible exact ih1 _ _ _)
      | (with_reducible exact ih2 _ _ _)
      | (with_reducible exact ih3 _ _ _)
      | (with_reducible exact spec_anywhere.mono _ _)
      | (with_reducible exact LeO.refl _)
      | (with_reducible exact LeO.none _)
      | (with_reducible refine LeO.ite ?_ ?_)
      | (with_reducible refine LeO.bind ?_ (fun _ => ?_))
      | exact ih0 _ _
      | exact ih1 _ _ _
      | exact ih2 _ _ _
      | exact ih3 _ _ _
      | exact spec_anywhere.mono _ _
      | exact LeO.none _
      | refine LeO.ite ?_ ?_
      | refine LeO.bind ?_ (fun _ => ?_)
set_option maxHeartbeats 8000000 in
set_option maxRecDepth 100000 in
theorem spec_inString.calls (k : Nat) (a0 : Int) (a1 : Int) (r1 : Int) (r2 : Int) (w : World) (h : spec_inString.f k a0 a1 = some (r1, r2)) :
    Calls Tryd.prog 20 #[.int .i64 a0, .int .u8 a1] w fun e w' => e = .returned (.tuple #[.int .i64 r1, .int .i64 r2]) ∧ Drawn0 w w' := by
  have H : (if a0 ≥ 15 then (some (0, 0)) else (if a1 = 24 then (spec_inString.j0 k a0 a1 true) else (spec_inString.j0 k a0 a1 (a1 == 26)))) = some (r1, r2) := h
  clear h
  have HC3 := Aside0.mk H
  clear H
  go_enter Tryd.func20, Tryd.ntmps20
  go_upto_block 0 with (fail)
  go_cut [] (fun wc => ∃ (kq : Nat), Aside0 (spec_inString.j2 kq a0 a1 = some (r1, r2)) ∧ Aside0 (kq ≤ k) ∧ Drawn0 w wc)
  case first =>
    have H := HC3.out
    clear HC3
    by_cases c4 : a0 ≥ 15
    · rw [if_pos c4] at H
      have c4b0 : decide (15 ≤ a0) = true := decide_eq_true c4
      clear c4
      (first | rw [c4b0] | (simp only [i64_w, i32_w]; rw [c4b0]) | skip)
      simp only [Option.some.injEq, Prod.mk.injEq] at H
      obtain ⟨rfl, rfl⟩ := H
      go_wp2
      go_ret2
      exact ⟨by first | rfl | (simp; done) | (simp [*]; done), by repeat (first | exact Drawn0.refl _ | apply Drawn0.step)⟩
    · rw [if_neg c4] at H
      have c4b0 : decide (15 ≤ a0) = false := decide_eq_false c4
      clear c4
      (first | rw [c4b0] | (simp only [i64_w, i32_w]; rw [c4b0]) | skip)
      have HC5 := Aside0.mk H
      clear H
      go_upto_region 3 with (fail)
      go_cut [12] (fun v12 wc => ∃ (kq : Nat) (x12_4 : Bool), v12 = .bool x12_4 ∧ Aside0 (spec_inString.j0 kq a0 a1 x12_4 = some (r1, r2)) ∧ Aside0 (kq ≤ k) ∧ Drawn0 w wc)
      case first =>
        have H := HC5.out
        clear HC5
        by_cases c6 : a1 = 24
        · rw [if_pos c6] at H
          have c6b0 : (a1 == 24) = true := beq_iff_eq.mpr c6
          have c6b1 : (a1 != 24) = false := bne_eq_false_iff_eq.mpr c6
          clear c6
          (first | rw [c6b0] | (simp only [i64_w, i32_w]; rw [c6b0]) | skip)
          have H' := Aside0.mk H
          clear H
          go_wp2
          go_meet
          case rel => exact ⟨_, (true), (by first | rfl | (simp; done) | (simp [*]; done)), H', ⟨by first | omega | exact Nat.le_refl _⟩, by repeat (first | exact Drawn0.refl _ | apply Drawn0.step)⟩
        · rw [if_neg c6] at H
          have c6b0 : (a1 == 24) = false := beq_eq_false_iff_ne.mpr c6
          have c6b1 : (a1 != 24) = true := bne_iff_ne.mpr c6
          (first | rw [c6b0] | (simp only [i64_w, i32_w]; rw [c6b0]) | skip)
          have H' := Aside0.mk H
          clear H
          go_wp2
          go_meet
          case rel => exact ⟨_, ((a1 == 26)), (by first | rfl | (simp; done) | (simp [*]; done)), H', ⟨by first | omega | exact Nat.le_refl _⟩, by repeat (first | exact Drawn0.refl _ | apply Drawn0.step)⟩
      case rest =>
        clear HC5
        try clear c2
        try clear p2
        try clear c4
        try clear c4b0
        try clear c6
        try clear c6b0
        try clear c6b1
        obtain ⟨kq, x12_4, rfl, HA, HJ4, ⟨mc4, rfl⟩⟩ := hcut
        cases kq with
        | zero => exact absurd HA.out (by simp [spec_inString.j0])
        | succ kj4 =>
          have H := HA.out
          clear HA
          simp only [spec_inString.j0] at H
          by_cases c7 : x12_4 = true
          · subst c7
            have H1 : (some (0, 0)) = some (r1, r2) := by rw [if_pos rfl] at H; exact H
            clear H
            have H := H1
            clear H1
            simp only [Option.some.injEq, Prod.mk.injEq] at H
            obtain ⟨rfl, rfl⟩ := H
            go_wp2
            go_ret2
            exact ⟨by first | rfl | (simp; done) | (simp [*]; done), by repeat (first | exact Drawn0.refl _ | apply Drawn0.step)⟩
          · replace c7 := Bool.eq_false_iff.mpr c7
            subst c7
            have H1 : (if a1 = 27 then (some (8, 4)) else (if a1 = 156 then (spec_inString.j1 kj4 a0 a1 (a1 == 156)) else (if a0 = 10 then (spec_inString.j1 kj4 a0 a1 (a1 == 7)) else (spec_inString.j1 kj4 a0 a1 false)))) = some (r1, r2) := by rw [if_neg (show ¬ (false = true) by decide)] at H; exact H
            clear H
            have H := H1
            clear H1
            by_cases c8 : a1 = 27
            · rw [if_pos c8] at H
              have c8b0 : (a1 == 27) = true := beq_iff_eq.mpr c8
              have c8b1 : (a1 != 27) = false := bne_eq_false_iff_eq.mpr c8
              clear c8
              simp only [Option.some.injEq, Prod.mk.injEq] at H
              obtain ⟨rfl, rfl⟩ := H
              go_wp2
              go_ret2
              exact ⟨by first | rfl | (simp; done) | (simp [*]; done), by repeat (first | exact Drawn0.refl _ | apply Drawn0.step)⟩
            · rw [if_neg c8] at H
              have c8b0 : (a1 == 27) = false := beq_eq_false_iff_ne.mpr c8
              have c8b1 : (a1 != 27) = true := bne_iff_ne.mpr c8
              have HC9 := Aside0.mk H
              clear H
              go_upto_if 22 with (fail)
              go_cut [22] (fun v22 wc => ∃ (kq : Nat) (x22_8 : Bool), v22 = .bool x22_8 ∧ Aside0 (spec_inString.j1 kq a0 a1 x22_8 = some (r1, r2)) ∧ Aside0 (kq ≤ kj4) ∧ Drawn0 w wc)
              case first =>
                have H := HC9.out
                clear HC9
                by_cases c10 : a1 = 156
                · rw [if_pos c10] at H
                  have c10b0 : (a1 == 156) = true := beq_iff_eq.mpr c10
                  have c10b1 : (a1 != 156) = false := bne_eq_false_iff_eq.mpr c10
                  clear c10
                  (first | rw [c10b0] | (simp only [i64_w, i32_w]; rw [c10b0]) | skip)
                  have H' := Aside0.mk H
                  clear H
                  go_wp2
                  go_meet
                  case rel => exact ⟨_, ((a1 == 156)), (by first | rfl | (simp; done) | (simp [*]; done)), H', ⟨by have := HJ4.out; first | omega | exact Nat.le_refl _⟩, by repeat (first | exact Drawn0.refl _ | apply Drawn0.step)⟩
                · rw [if_neg c10] at H
                  have c10b0 : (a1 == 156) = false := beq_eq_false_iff_ne.mpr c10
                  have c10b1 : (a1 != 156) = true := bne_iff_ne.mpr c10
                  (first | rw [c10b0] | (simp only [i64_w, i32_w]; rw [c10b0]) | skip)
                  by_cases c11 : a0 = 10
                  · rw [if_pos c11] at H
                    have c11b0 : (a0 == 10) = true := beq_iff_eq.mpr c11
                    have c11b1 : (a0 != 10) = false := bne_eq_false_iff_eq.mpr c11
                    clear c11
                    have H' := Aside0.mk H
                    clear H
                    go_wp2
                    go_meet
                    case rel => exact ⟨_, ((a1 == 7)), (by first | rfl | (simp; done) | (simp [*]; done)), H', ⟨by have := HJ4.out; first | omega | exact Nat.le_refl _⟩, by repeat (first | exact Drawn0.refl _ | apply Drawn0.step)⟩
                  · rw [if_neg c11] at H
                    have c11b0 : (a0 == 10) = false := beq_eq_false_iff_ne.mpr c11
                    have c11b1 : (a0 != 10) = true := bne_iff_ne.mpr c11
                    have H' := Aside0.mk H
                    clear H
                    go_wp2
                    go_meet
                    case rel => exact ⟨_, (false), (by first | rfl | (simp; done) | (simp [*]; done)), H', ⟨by have := HJ4.out; first | omega | exact Nat.le_refl _⟩, by repeat (first | exact Drawn0.refl _ | apply Drawn0.step)⟩
              case rest =>
                clear HC9
                try clear c1
                try clear c2
                try clear p2
                try clear c4
                try clear c4b0
                try clear c6
                try clear c6b0
                try clear c6b1
                try clear c7
                try clear c8
                try clear c8b0
                try clear c8b1
                try clear c10
                try clear c10b0
                try clear c10b1
                try clear c11
                try clear c11b0
                try clear c11b1
                try clear p2
                obtain ⟨kq, x22_8, rfl, HA, HJ8, ⟨mc8, rfl⟩⟩ := hcut
                cases kq with
                | zero => exact absurd HA.out (by simp [spec_inString.j1])
                | succ kj8 =>
                  have H := HA.out
                  clear HA
                  simp only [spec_inString.j1] at H
                  by_cases c12 : x22_8 = true
                  · subst c12
                    have H1 : (some (0, 4)) = some (r1, r2) := by rw [if_pos rfl] at H; exact H
                    clear H
                    have H := H1
                    clear H1
                    simp only [Option.some.injEq, Prod.mk.injEq] at H
                    obtain ⟨rfl, rfl⟩ := H
                    go_wp2
                    go_ret2
                    exact ⟨by first | rfl | (simp; done) | (simp [*]; done), by repeat (first | exact Drawn0.refl _ | apply Drawn0.step)⟩
                  · replace c12 := Bool.eq_false_iff.mpr c12
                    subst c12
                    have H1 : (if a0 = 10 then (if a1 < 32 then (some (a0, 0)) else (spec_inString.j2 kj8 a0 a1)) else (spec_inString.j2 kj8 a0 a1)) = some (r1, r2) := by rw [if_neg (show ¬ (false = true) by decide)] at H; exact H
                    clear H
                    have H := H1
                    clear H1
                    by_cases c13 : a0 = 10
                    · rw [if_pos c13] at H
                      have c13b0 : (a0 == 10) = true := beq_iff_eq.mpr c13
                      have c13b1 : (a0 != 10) = false := bne_eq_false_iff_eq.mpr c13
                      clear c13
                      by_cases c14 : a1 < 32
                      · rw [if_pos c14] at H
                        have c14b0 : decide (a1 < 32) = true := decide_eq_true c14
                        clear c14
                        simp only [Option.some.injEq, Prod.mk.injEq] at H
                        obtain ⟨rfl, rfl⟩ := H
                        go_wp2
                        go_ret2
                        exact ⟨by first | rfl | (simp; done) | (simp [*]; done), by repeat (first | exact Drawn0.refl _ | apply Drawn0.step)⟩
                      · rw [if_neg c14] at H
                        have c14b0 : decide (a1 < 32) = false := decide_eq_false c14
                        clear c14
                        have H' := Aside0.mk H
                        clear H
                        go_wp2
                        go_meet
                        case rel => exact ⟨_, H', ⟨by have := HJ4.out; have := HJ8.out; first | omega | exact Nat.le_refl _⟩, by repeat (first | exact Drawn0.refl _ | apply Drawn0.step)⟩
                    · rw [if_neg c13] at H
                      have c13b0 : (a0 == 10) = false := beq_eq_false_iff_ne.mpr c13
                      have c13b1 : (a0 != 10) = true := bne_iff_ne.mpr c13
                      have H' := Aside0.mk H
                      clear H
                      go_wp2
                      go_meet
                      case rel => exact ⟨_, H', ⟨by have := HJ4.out; have := HJ8.out; first | omega | exact Nat.le_refl _⟩, by repeat (first | exact Drawn0.refl _ | apply Drawn0.step)⟩
  case rest =>
    clear HC3
    try clear c1
    try clear c2
    try clear p2
    try clear c4
    try clear c4b0
    try clear c6
    try clear c6b0
    try clear c6b1
    try clear c7
    try clear c8
    try clear c8b0
    try clear c8b1
    try clear c10
    try clear c10b0
    try clear c10b1
    try clear c11
    try clear c11b0
    try clear c11b1
    try clear c12
    try clear c13
    try clear c13b0
    try clear c13b1
    try clear c14
    try clear c14b0
    try clear p2
    obtain ⟨kq, HA, HJ2, ⟨mc2, rfl⟩⟩ := hcut
    cases kq with
    | zero => exact absurd HA.out (by simp [spec_inString.j2])
    | succ kj2 =>
      have H := HA.out
      clear HA
      simp only [spec_inString.j2] at H
      have HC15 := Aside0.mk H
      clear H
      go_upto_region 12 with (fail)
      go_cut [44] (fun v44 wc => ∃ (kq : Nat) (x44_14 : Bool), v44 = .bool x44_14 ∧ Aside0 (spec_inString.j3 kq a0 a1 x44_14 = some (r1, r2)) ∧ Aside0 (kq ≤ kj2) ∧ Drawn0 w wc)
      case first =>
        have H := HC15.out
        clear HC15
        by_cases c16 : a0 = 7
        · rw [if_pos c16] at H
          have c16b0 : (a0 == 7) = true := beq_iff_eq.mpr c16
          have c16b1 : (a0 != 7) = false := bne_eq_false_iff_eq.mpr c16
          clear c16
          (first | rw [c16b0] | (simp only [i64_w, i32_w]; rw [c16b0]) | skip)
          have H' := Aside0.mk H
          clear H
          go_wp2
          go_meet
          case rel => exact ⟨_, (false), (by first | rfl | (simp; done) | (simp [*]; done)), H', ⟨by have := HJ2.out; first | omega | exact Nat.le_refl _⟩, by repeat (first | exact Drawn0.refl _ | apply Drawn0.step)⟩
        · rw [if_neg c16] at H
          have c16b0 : (a0 == 7) = false := beq_eq_false_iff_ne.mpr c16
          have c16b1 : (a0 != 7) = true := bne_iff_ne.mpr c16
          (first | rw [c16b0] | (simp only [i64_w, i32_w]; rw [c16b0]) | skip)
          have H' := Aside0.mk H
          clear H
          go_wp2
          go_meet
          case rel => exact ⟨_, ((a0 != 10)), (by first | rfl | (simp; done) | (simp [*]; done)), H', ⟨by have := HJ2.out; first | omega | exact Nat.le_refl _⟩, by repeat (first | exact Drawn0.refl _ | apply Drawn0.step)⟩
      case rest =>
        clear HC15
        try clear c1
        try clear c2
        try clear p2
        try clear c4
        try clear c4b0
        try clear c6
        try clear c6b0
        try clear c6b1
        try clear c7
        try clear c8
        try clear c8b0
        try clear c8b1
        try clear c10
        try clear c10b0
        try clear c10b1
        try clear c11
        try clear c11b0
        try clear c11b1
        try clear c12
        try clear c13
        try clear c13b0
        try clear c13b1
        try clear c14
        try clear c14b0
        try clear c16
        try clear c16b0
        try clear c16b1
        try clear p2
        obtain ⟨kq, x44_14, rfl, HA, HJ14, ⟨mc14, rfl⟩⟩ := hcut
        cases kq with
        | zero => exact absurd HA.out (by simp [spec_inString.j3])
        | succ kj14 =>
          have H := HA.out
          clear HA
          simp only [spec_inString.j3] at H
          by_cases c17 : x44_14 = true
          · subst c17
            have H1 : ((spec_anywhere.f kj14 a1).bind fun bt102 => (if bt102.2.2 = true then (some (bt102.1, bt102.2.1)) else (some (a0, 7)))) = some (r1, r2) := by rw [if_pos rfl] at H; exact H
            clear H
            have H := H1
            clear H1
            replace H := Option.bind_eq_some_iff.mp H
            obtain ⟨⟨t102, t103, t104⟩, A180, H⟩ := H
            replace H : (if t104 = true then (some (t102, t103)) else (some (a0, 7))) = some (r1, r2) := H
            have A18 := Aside0.mk A180
            clear A180
            by_cases c19 : t104 = true
            · subst c19
              have H1 : (some (t102, t103)) = some (r1, r2) := by rw [if_pos rfl] at H; exact H
              clear H
              have H := H1
              clear H1
              simp only [Option.some.injEq, Prod.mk.injEq] at H
              obtain ⟨rfl, rfl⟩ := H
              go_wp2_with (first | ((with_reducible refine gate_callee (f := 22) rfl ?_); refine goesL_ (some 47) rfl rfl Tryd.func22 (by kernel_rfl) rfl #[.int .u8 a1] rfl (by (try simp only [List.map_toArray, List.map_cons, List.map_nil]); first | done | rfl | (simp only [List.length_drop, List.length_take]; rfl) | (simp [Act.eval, *]; done) | (simp [Act.eval, *]; unfold wrap64; omega)) ?_; (with_reducible refine (spec_anywhere.calls kj14 a1 t102 t103 true _ A18.out).mono ?_); rintro e w' ⟨rfl, ⟨nd, rfl⟩⟩; refine ⟨_, rfl, ?_⟩))
              go_ret2
              exact ⟨by first | rfl | (simp; done) | (simp [*]; done), by repeat (first | exact Drawn0.refl _ | apply Drawn0.step)⟩
            · replace c19 := Bool.eq_false_iff.mpr c19
              subst c19
              have H1 : (some (a0, 7)) = some (r1, r2) := by rw [if_neg (show ¬ (false = true) by decide)] at H; exact H
              clear H
              have H := H1
              clear H1
              simp only [Option.some.injEq, Prod.mk.injEq] at H
              obtain ⟨rfl, rfl⟩ := H
              go_wp2_with (first | ((with_reducible refine gate_callee (f := 22) rfl ?_); refine goesL_ (some 47) rfl rfl Tryd.func22 (by kernel_rfl) rfl #[.int .u8 a1] rfl (by (try simp only [List.map_toArray, List.map_cons, List.map_nil]); first | done | rfl | (simp only [List.length_drop, List.length_take]; rfl) | (simp [Act.eval, *]; done) | (simp [Act.eval, *]; unfold wrap64; omega)) ?_; (with_reducible refine (spec_anywhere.calls kj14 a1 t102 t103 false _ A18.out).mono ?_); rintro e w' ⟨rfl, ⟨nd, rfl⟩⟩; refine ⟨_, rfl, ?_⟩))
              go_ret2
              exact ⟨by first | rfl | (simp; done) | (simp [*]; done), by repeat (first | exact Drawn0.refl _ | apply Drawn0.step)⟩
          · replace c17 := Bool.eq_false_iff.mpr c17
            subst c17
            have H1 : (some (a0, 7)) = some (r1, r2) := by rw [if_neg (show ¬ (false = true) by decide)] at H; exact H
            clear H
            have H := H1
            clear H1
            simp only [Option.some.injEq, Prod.mk.injEq] at H
            obtain ⟨rfl, rfl⟩ := H
            go_wp2
            go_ret2
            exact ⟨by first | rfl | (simp; done) | (simp [*]; done), by repeat (first | exact Drawn0.refl _ | apply Drawn0.step)⟩
end Go.Proofs.YtmpmfdghdaofhaaDoor.PK

namespace Go.Proofs.YtmpmfdghdaofhaaDoor.PK
open Go.RowKit Go.Proofs.YtmpmfdghdaofhaaDoorW.PrintWords Go.Proofs.YtmpmfdghdaofhaaDoorW.PrintLast Go.Proofs.YtmpmfdghdaofhaaDoorW.PrintMore
attribute [local go_sem] max2_int min2_int max_two min_two max_three min_three max_four min_four
attribute [local go_sem] Ext.wrap64_mod256 Ext.wrap64_mod32 Ext.i64_mod256 Ext.i64_mod32 Ext.i64_u8 Ext.w64_u8 Ext.i64_u32 Ext.w64_u32
set_option linter.unusedVariables false
set_option linter.unusedSimpArgs false
mutual
def spec_Transition.j0 : Nat → Int → Int → Bool → Option (Int × Int)
  | 0, _, _, _ => none
  | k + 1, x0, x1, x27 => if x27 = true then ((spec_inString.f k x0 x1).bind fun bt105 => (some (bt105.1, bt105.2))) else (if x0 = 4 then (if x1 = 27 then (spec_Transition.j1 k x0 x1 true) else ((spec_within.f x1 8 13).bind fun t107 => (spec_Transition.j1 k x0 x1 t107))) else (spec_Transition.j1 k x0 x1 false))
def spec_Transition.j1 : Nat → Int → Int → Bool → Option (Int × Int)
  | 0, _, _, _ => none
  | k + 1, x0, x1, x42 => if x42 = true then (some (7, 7)) else ((spec_anywhere.f k x1).bind fun bt108 => (if bt108.2.2 = true then (some (bt108.1, bt108.2.1)) else ((spec_within.f x1 32 47).bind fun t111 => ((spec_within.f x1 64 126).bind fun t112 => ((spec_within.f x1 48 59).bind fun t113 => ((spec_within.f x1 60 63).bind fun t114 => (if x0 = 0 then (if x1 < 32 then (some (0, 5)) else (if x1 = 127 then (some (0, 5)) else (some (0, 9)))) else (if x0 = 8 then (spec_Transition.j2 k x0 x1 (decide (x1 < 32)) t111 t112 t113 t114 x0 (x0 == 8)) else (spec_Transition.j2 k x0 x1 (decide (x1 < 32)) t111 t112 t113 t114 x0 (x0 == 9))))))))))
def spec_Transition.j2 : Nat → Int → Int → Bool → Bool → Bool → Bool → Bool → Int → Bool → Option (Int × Int)
  | 0, _, _, _, _, _, _, _, _, _ => none
  | k + 1, x0, x1, x9, x10, x11, x12, x13, x62, x70 => if x70 = true then (if x9 = true then (some (x0, 5)) else (if x10 = true then (some (9, 2)) else (if x1 = 127 then (some (x0, 0)) else (if x0 = 8 then (if x1 = 80 then (some (4, 1)) else (if x1 = 88 then (some (11, 6)) else (if x1 = 91 then (some (1, 1)) else (if x1 = 93 then (some (10, 6)) else (if x1 = 94 then (some (12, 6)) else (if x1 = 95 then (some (13, 6)) else (some (0, 4)))))))) else (some (0, 4)))))) else (if x62 = 1 then (spec_Transition.j3 k x0 x1 x9 x10 x11 x12 x13 x62 (x62 == 1)) else (if x62 = 2 then (spec_Transition.j3 k x0 x1 x9 x10 x11 x12 x13 x62 (x62 == 2)) else (spec_Transition.j3 k x0 x1 x9 x10 x11 x12 x13 x62 (x62 == 3))))
def spec_Transition.j3 : Nat → Int → Int → Bool → Bool → Bool → Bool → Bool → Int → Bool → Option (Int × Int)
  | 0, _, _, _, _, _, _, _, _, _ => none
  | k + 1, x0, x1, x9, x10, x11, x12, x13, x62, x97 => if x97 = true then (if x9 = true then (some (x0, 5)) else (if x10 = true then (some (2, 2)) else (if x11 = true then (some (0, 4)) else (if x1 = 127 then (some (x0, 0)) else (if x0 = 2 then (some (0, 0)) else (if x12 = true then (some (3, 8)) else (if x13 = true then (if x0 = 1 then (some (3, 3)) else (some (x0, 0))) else (some (x0, 0))))))))) else (if x62 = 4 then (spec_Transition.j4 k x0 x1 x10 x11 x12 x13 (x62 == 4)) else (if x62 = 5 then (spec_Transition.j4 k x0 x1 x10 x11 x12 x13 (x62 == 5)) else (spec_Transition.j4 k x0 x1 x10 x11 x12 x13 (x62 == 6))))
def spec_Transition.j4 : Nat → Int → Int → Bool → Bool → Bool → Bool → Bool → Option (Int × Int)
  | 0, _, _, _, _, _, _, _ => none
  | k + 1, x0, x1, x10, x11, x12, x13, x124 => if x124 = true then (if x10 = true then (some (5, 2)) else (if x11 = true then (spec_Transition.j5 k x0 x12 x13 x11) else (if x0 = 5 then ((spec_within.f x1 48 63).bind fun t115 => (spec_Transition.j5 k x0 x12 x13 t115)) else (spec_Transition.j5 k x0 x12 x13 false)))) else (some (0, 0))
def spec_Transition.j5 : Nat → Int → Bool → Bool → Bool → Option (Int × Int)
  | 0, _, _, _, _ => none
  | k + 1, x0, x12, x13, x130 => if x130 = true then (some (7, 6)) else (if x12 = true then (some (6, 8)) else (if x13 = true then (if x0 = 4 then (some (6, 3)) else (some (x0, 0))) else (some (x0, 0))))
end
def spec_Transition.f (k : Nat) (a0 : Int) (a1 : Int) : Option (Int × Int) := if a0 ≥ 7 then (if a0 = 8 then (spec_Transition.j0 k a0 a1 false) else (if a0 = 9 then (spec_Transition.j0 k a0 a1 false) else (spec_Transition.j0 k a0 a1 (a0 != 14)))) else (spec_Transition.j0 k a0 a1 false)
theorem spec_Transition.mono_l : ∀ k, (∀ y0 y1 y2, LeO (spec_Transition.j0 k y0 y1 y2) (spec_Transition.j0 (k + 1) y0 y1 y2)) ∧ (∀ y0 y1 y2, LeO (spec_Transition.j1 k y0 y1 y2) (spec_Transition.j1 (k + 1) y0 y1 y2)) ∧ (∀ y0 y1 y2 y3 y4 y5 y6 y7 y8, LeO (spec_Transition.j2 k y0 y1 y2 y3 y4 y5 y6 y7 y8) (spec_Transition.j2 (k + 1) y0 y1 y2 y3 y4 y5 y6 y7 y8)) ∧ (∀ y0 y1 y2 y3 y4 y5 y6 y7 y8, LeO (spec_Transition.j3 k y0 y1 y2 y3 y4 y5 y6 y7 y8) (spec_Transition.j3 (k + 1) y0 y1 y2 y3 y4 y5 y6 y7 y8)) ∧ (∀ y0 y1 y2 y3 y4 y5 y6, LeO (spec_Transition.j4 k y0 y1 y2 y3 y4 y5 y6) (spec_Transition.j4 (k + 1) y0 y1 y2 y3 y4 y5 y6)) ∧ (∀ y0 y1 y2 y3, LeO (spec_Transition.j5 k y0 y1 y2 y3) (spec_Transition.j5 (k + 1) y0 y1 y2 y3))
  | 0 => ⟨fun _ _ _ r h => by simp [spec_Transition.j0] at h, fun _ _ _ r h => by simp [spec_Transition.j1] at h, fun _ _ _ _ _ _ _ _ _ r h => by simp [spec_Transition.j2] at h, fun _ _ _ _ _ _ _ _ _ r h => by simp [spec_Transition.j3] at h, fun _ _ _ _ _ _ _ r h => by simp [spec_Transition.j4] at h, fun _ _ _ _ r h => by simp [spec_Transition.j5] at h⟩
  | k + 1 => by
    obtain ⟨ih0, ih1, ih2, ih3, ih4, ih5⟩ := spec_Transition.mono_l k
    refine ⟨?_, ?_, ?_, ?_, ?_, ?_⟩
    · intro y0 y1 y2
      unfold spec_Transition.j0
      repeat' first
      | (with_reducible exact ih0 _ _ _)
      | (with_reducible exact ih1 _ _ _)
      | (with_reducible exact ih2 _ _ _ _ _ _ _ _ _)
      | (with_reducible exact ih3 _ _ _ _ _ _ _ _ _)
      | (with_reducible exact ih4 _ _ _ _ _ _ _)
      | (with_reducible exact ih5 _ _ _ _)
      | (with_reducible exact spec_anywhere.mono _ _)
      | (with_reducible exact spec_inString.mono _ _ _)
      | (with_reducible exact LeO.refl _)
      | (with_reducible exact LeO.none _)
      | (with_reducible refine LeO.ite ?_ ?_)
      | (with_reducible refine LeO.bind ?_ (fun _ => ?_))
      | exact ih0 _ _ _
      | exact ih1 _ _ _
      | exact ih2 _ _ _ _ _ _ _ _ _
      | exact ih3 _ _ _ _ _ _ _ _ _
      | exact ih4 _ _ _ _ _ _ _
      | exact ih5 _ _ _ _
      | exact spec_anywhere.mono _ _
      | exact spec_inString.mono _ _ _
      | exact LeO.none _
      | refine LeO.ite ?_ ?_
      | refine LeO.bind ?_ (fun _ => ?_)
    · intro y0 y1 y2
      unfold spec_Transition.j1
      repeat' first
      | (with_reducible exact ih0 _ _ _)
      | (with_reducible exact ih1 _ _ _)
      | (with_reducible exact ih2 _ _ _ _ _ _ _ _ _)
      | (with_reducible exact ih3 _ _ _ _ _ _ _ _ _)
      | (with_reducible exact ih4 _ _ _ _ _ _ _)
      | (with_reducible exact ih5 _ _ _ _)
      | (with_reducible exact spec_anywhere.mono _ _)
      | (with_reducible exact spec_inString.mono _ _ _)
      | (with_reducible exact LeO.refl _)
      | (with_reducible exact LeO.none _)
      | (with_reducible refine LeO.ite ?_ ?_)
      | (with_reducible refine LeO.bind ?_ (fun _ => ?_))
      | exact ih0 _ _ _
      | exact ih1 _ _ _
      | exact ih2 _ _ _ _ _ _ _ _ _
      | exact ih3 _ _ _ _ _ _ _ _ _
      | exact ih4 _ _ _ _ _ _ _
      | exact ih5 _ _ _ _
      | exact spec_anywhere.mono _ _
      | exact spec_inString.mono _ _ _
      | exact LeO.none _
      | refine LeO.ite ?_ ?_
      | refine LeO.bind ?_ (fun _ => ?_)
    · intro y0 y1 y2 y3 y4 y5 y6 y7 y8
      unfold spec_Transition.j2
      repeat' first
      | (with_reducible exact ih0 _ _ _)
      | (with_reducible exact ih1 _ _ _)
      | (with_reducible exact ih2 _ _ _ _ _ _ _ _ _)
      | (with_reducible exact ih3 _ _ _ _ _ _ _ _ _)
      | (with_reducible exact ih4 _ _ _ _ _ _ _)
      | (with_reducible exact ih5 _ _ _ _)
      | (with_reducible exact spec_anywhere.mono _ _)
      | (with_reducible exact spec_inString.mono _ _ _)
      | (with_reducible exact LeO.refl _)
      | (with_reducible exact LeO.none _)
      | (with_reducible refine LeO.ite ?_ ?_)
      | (with_reducible refine LeO.bind ?_ (fun _ => ?_))
      | exact ih0 _ _ _
      | exact ih1 _ _ _
      | exact ih2 _ _ _ _ _ _ _ _ _
      | exact ih3 _ _ _ _ _ _ _ _ _
      | exact ih4 _ _ _ _ _ _ _
      | exact ih5 _ _ _ _
      | exact spec_anywhere.mono _ _
      | exact spec_inString.mono _ _ _
      | exact LeO.none _
      | refine LeO.ite ?_ ?_
      | refine LeO.bind ?_ (fun _ => ?_)
    · intro y0 y1 y2 y3 y4 y5 y6 y7 y8
      unfold spec_Transition.j3
      repeat' first
      | (with_reducible exact ih0 _ _ _)
      | (with_reducible exact ih1 _ _ _)
      | (with_reducible exact ih2 _ _ _ _ _ _ _ _ _)
      | (with_reducible exact ih3 _ _ _ _ _ _ _ _ _)
      | (with_reducible exact ih4 _ _ _ _ _ _ _)
      | (with_reducible exact ih5 _ _ _ _)
      | (with_reducible exact spec_anywhere.mono _ _)
      | (with_reducible exact spec_inString.mono _ _ _)
      | (with_reducible exact LeO.refl _)
      | (with_reducible exact LeO.none _)
      | (with_reducible refine LeO.ite ?_ ?_)
      | (with_reducible refine LeO.bind ?_ (fun _ => ?_))
      | exact ih0 _ _ _
      | exact ih1 _ _ _
      | exact ih2 _ _ _ _ _ _ _ _ _
      | exact ih3 _ _ _ _ _ _ _ _ _
      | exact ih4 _ _ _ _ _ _ _
      | exact ih5 _ _ _ _
      | exact spec_anywhere.mono _ _
      | exact spec_inString.mono _ _ _
      | exact LeO.none _
      | refine LeO.ite ?_ ?_
      | refine LeO.bind ?_ (fun _ => ?_)
    · intro y0 y1 y2 y3 y4 y5 y6
      unfold spec_Transition.j4
      repeat' first
      | (with_reducible exact ih0 _ _ _)
      | (with_reducible exact ih1 _ _ _)
      | (with_reducible exact ih2 _ _ _ _ _ _ _ _ _)
      | (with_reducible exact ih3 _ _ _ _ _ _ _ _ _)
      | (with_reducible exact ih4 _ _ _ _ _ _ _)
      | (with_reducible exact ih5 _ _ _ _)
      | (with_reducible exact spec_anywhere.mono _ _)
      | (with_reducible exact spec_inString.mono _ _ _)
      | (with_reducible exact LeO.refl _)
      | (with_reducible exact LeO.none _)
      | (with_reducible refine LeO.ite ?_ ?_)
      | (with_reducible refine LeO.bind ?_ (fun _ => ?_))
      | exact ih0 _ _ _
      | exact ih1 _ _ _
      | exact ih2 _ _ _ _ _ _ _ _ _
      | exact ih3 _ _ _ _ _ _ _ _ _
      | exact ih4 _ _ _ _ _ _ _
      | exact ih5 _ _ _ _
      | exact spec_anywhere.mono _ _
      | exact spec_inString.mono _ _ _
      | exact LeO.none _
      | refine LeO.ite ?_ ?_
      | refine LeO.bind ?_ (fun _ => ?_)
    · intro y0 y1 y2 y3
      unfold spec_Transition.j5
      repeat' first
      | (with_reducible exact ih0 _ _ _)
      | (with_reducible exact ih1 _ _ _)
      | (with_reducible exact ih2 _ _ _ _ _ _ _ _ _)
      | (with_reducible exact ih3 _ _ _ _ _ _ _ _ _)
      | (with_reducible exact ih4 _ _ _ _ _ _ _)
      | (with_reducible exact ih5 _ _ _ _)
      | (with_reducible exact spec_anywhere.mono _ _)
      | (with_reducible exact spec_inString.mono _ _ _)
      | (with_reducible exact LeO.refl _)
      | (with_reducible exact LeO.none _)
      | (with_reducible refine LeO.ite ?_ ?_)
      | (with_reducible refine LeO.bind ?_ (fun _ => ?_))
      | exact ih0 _ _ _
      | exact ih1 _ _ _
      | exact ih2 _ _ _ _ _ _ _ _ _
      | exact ih3 _ _ _ _ _ _ _ _ _
      | exact ih4 _ _ _ _ _ _ _
      | exact ih5 _ _ _ _
      | exact spec_anywhere.mono _ _
      | exact spec_inString.mono _ _ _
      | exact LeO.none _
      | refine LeO.ite ?_ ?_
      | refine LeO.bind ?_ (fun _ => ?_)
theorem spec_Transition.mono : ∀ a0 a1 k, LeO (spec_Transition.f k a0 a1) (spec_Transition.f (k + 1) a0 a1) := by
  intro a0 a1 k
  obtain ⟨ih0, ih1, ih2, ih3, ih4, ih5⟩ := spec_Transition.mono_l k
  unfold spec_Transition.f
  repeat' first
      | (with_reducible exact ih0 _ _ _)
      | (with_reducible exact ih1 _ _ _)
      | (with_reducible exact ih2 _ _ _ _ _ _ _ _ _)
      | (with_reducible exact ih3 _ _ _ _ _ _ _ _ _)
      | (with_reducible exact ih4 _ _ _ _ _ _ _)
      | (with_reducible exact ih5 _ _ _ _)
      | (with_reducible exact spec_anywhere.mono _ _)
      | (with_reducible exact spec_inString.mono _ _ _)
      | (with_reducible exact LeO.refl _)
      | (with_reducible exact LeO.none _)
      | (with_reducible refine LeO.ite ?_ ?_)
      | (with_reducible refine LeO.bind ?_ (fun _ => ?_))
      | exact ih0 _ _ _
      | exact ih1 _ _ _
      | exact ih2 _ _ _ _ _ _ _ _ _
      | exact ih3 _ _ _ _ _ _ _ _ _
      | exact ih4 _ _ _ _ _ _ _
      | exact ih5 _ _ _ _
      | exact spec_anywhere.mono _ _
      | exact spec_inString.mono _ _ _
      | exact LeO.none _
      | refine LeO.ite ?_ ?_
      | refine LeO.bind ?_ (fun _ => ?_)
set_option maxHeartbeats 8000000 in
set_option maxRecDepth 100000 in
theorem spec_Transition.calls (k : Nat) (a0 : Int) (a1 : Int) (r1 : Int) (r2 : Int) (w : World) (h : spec_Transition.f k a0 a1 = some (r1, r2)) :
    Calls Tryd.prog 8 #[.int .i64 a0, .int .u8 a1] w fun e w' => e = .returned (.tuple #[.int .i64 r1, .int .i64 r2]) ∧ Drawn0 w w' := by
  have H : (if a0 ≥ 7 then (if a0 = 8 then (spec_Transition.j0 k a0 a1 false) else (if a0 = 9 then (spec_Transition.j0 k a0 a1 false) else (spec_Transition.j0 k a0 a1 (a0 != 14)))) else (spec_Transition.j0 k a0 a1 false)) = some (r1, r2) := h
  clear h
  have HC3 := Aside0.mk H
  clear H
  go_enter Tryd.func8, Tryd.ntmps8
  go_upto_region 1 with (fail)
  go_cut [27] (fun v27 wc => ∃ (kq : Nat) (x27_2 : Bool), v27 = .bool x27_2 ∧ Aside0 (spec_Transition.j0 kq a0 a1 x27_2 = some (r1, r2)) ∧ Aside0 (kq ≤ k) ∧ Drawn0 w wc)
  case first =>
    have H := HC3.out
    clear HC3
    by_cases c4 : a0 ≥ 7
    · rw [if_pos c4] at H
      have c4b0 : decide (7 ≤ a0) = true := decide_eq_true c4
      clear c4
      (first | rw [c4b0] | (simp only [i64_w, i32_w]; rw [c4b0]) | skip)
      by_cases c5 : a0 = 8
      · rw [if_pos c5] at H
        have c5b0 : (a0 == 8) = true := beq_iff_eq.mpr c5
        have c5b1 : (a0 != 8) = false := bne_eq_false_iff_eq.mpr c5
        clear c5
        have H' := Aside0.mk H
        clear H
        go_wp2
        go_meet
        case rel => exact ⟨_, (false), (by first | rfl | (simp; done) | (simp [*]; done)), H', ⟨by first | omega | exact Nat.le_refl _⟩, by repeat (first | exact Drawn0.refl _ | apply Drawn0.step)⟩
      · rw [if_neg c5] at H
        have c5b0 : (a0 == 8) = false := beq_eq_false_iff_ne.mpr c5
        have c5b1 : (a0 != 8) = true := bne_iff_ne.mpr c5
        by_cases c6 : a0 = 9
        · rw [if_pos c6] at H
          have c6b0 : (a0 == 9) = true := beq_iff_eq.mpr c6
          have c6b1 : (a0 != 9) = false := bne_eq_false_iff_eq.mpr c6
          clear c6
          have H' := Aside0.mk H
          clear H
          go_wp2
          go_meet
          case rel => exact ⟨_, (false), (by first | rfl | (simp; done) | (simp [*]; done)), H', ⟨by first | omega | exact Nat.le_refl _⟩, by repeat (first | exact Drawn0.refl _ | apply Drawn0.step)⟩
        · rw [if_neg c6] at H
          have c6b0 : (a0 == 9) = false := beq_eq_false_iff_ne.mpr c6
          have c6b1 : (a0 != 9) = true := bne_iff_ne.mpr c6
          have H' := Aside0.mk H
          clear H
          go_wp2
          go_meet
          case rel => exact ⟨_, ((a0 != 14)), (by first | rfl | (simp; done) | (simp [*]; done)), H', ⟨by first | omega | exact Nat.le_refl _⟩, by repeat (first | exact Drawn0.refl _ | apply Drawn0.step)⟩
    · rw [if_neg c4] at H
      have c4b0 : decide (7 ≤ a0) = false := decide_eq_false c4
      clear c4
      (first | rw [c4b0] | (simp only [i64_w, i32_w]; rw [c4b0]) | skip)
      have H' := Aside0.mk H
      clear H
      go_wp2
      go_meet
      case rel => exact ⟨_, (false), (by first | rfl | (simp; done) | (simp [*]; done)), H', ⟨by first | omega | exact Nat.le_refl _⟩, by repeat (first | exact Drawn0.refl _ | apply Drawn0.step)⟩
  case rest =>
    clear HC3
    try clear p2
    try clear c4
    try clear c4b0
    try clear c5
    try clear c5b0
    try clear c5b1
    try clear c6
    try clear c6b0
    try clear c6b1
    obtain ⟨kq, x27_2, rfl, HA, HJ2, ⟨mc2, rfl⟩⟩ := hcut
    cases kq with
    | zero => exact absurd HA.out (by simp [spec_Transition.j0])
    | succ kj2 =>
      have H := HA.out
      clear HA
      simp only [spec_Transition.j0] at H
      by_cases c7 : x27_2 = true
      · subst c7
        have H1 : ((spec_inString.f kj2 a0 a1).bind fun bt105 => (some (bt105.1, bt105.2))) = some (r1, r2) := by rw [if_pos rfl] at H; exact H
        clear H
        have H := H1
        clear H1
        replace H := Option.bind_eq_some_iff.mp H
        obtain ⟨⟨t105, t106⟩, A80, H⟩ := H
        replace H : (some (t105, t106)) = some (r1, r2) := H
        have A8 := Aside0.mk A80
        clear A80
        simp only [Option.some.injEq, Prod.mk.injEq] at H
        obtain ⟨rfl, rfl⟩ := H
        go_wp2_with (first | ((with_reducible refine gate_callee (f := 20) rfl ?_); refine goesL_ (some 30) rfl rfl Tryd.func20 (by kernel_rfl) rfl #[.int .i64 a0, .int .u8 a1] rfl (by (try simp only [List.map_toArray, List.map_cons, List.map_nil]); first | done | rfl | (simp only [List.length_drop, List.length_take]; rfl) | (simp [Act.eval, *]; done) | (simp [Act.eval, *]; unfold wrap64; omega)) ?_; (with_reducible refine (spec_inString.calls kj2 a0 a1 t105 t106 _ A8.out).mono ?_); rintro e w' ⟨rfl, ⟨nd, rfl⟩⟩; refine ⟨_, rfl, ?_⟩))
        go_ret2
        exact ⟨by first | rfl | (simp; done) | (simp [*]; done), by repeat (first | exact Drawn0.refl _ | apply Drawn0.step)⟩
      · replace c7 := Bool.eq_false_iff.mpr c7
        subst c7
        have H1 : (if a0 = 4 then (if a1 = 27 then (spec_Transition.j1 kj2 a0 a1 true) else ((spec_within.f a1 8 13).bind fun t107 => (spec_Transition.j1 kj2 a0 a1 t107))) else (spec_Transition.j1 kj2 a0 a1 false)) = some (r1, r2) := by rw [if_neg (show ¬ (false = true) by decide)] at H; exact H
        clear H
        have H := H1
        clear H1
        have HC9 := Aside0.mk H
        clear H
        go_upto_region 3 with (fail)
        go_cut [42] (fun v42 wc => ∃ (kq : Nat) (x42_8 : Bool), v42 = .bool x42_8 ∧ Aside0 (spec_Transition.j1 kq a0 a1 x42_8 = some (r1, r2)) ∧ Aside0 (kq ≤ kj2) ∧ Drawn0 w wc)
        case first =>
          have H := HC9.out
          clear HC9
          by_cases c10 : a0 = 4
          · rw [if_pos c10] at H
            have c10b0 : (a0 == 4) = true := beq_iff_eq.mpr c10
            have c10b1 : (a0 != 4) = false := bne_eq_false_iff_eq.mpr c10
            clear c10
            (first | rw [c10b0] | (simp only [i64_w, i32_w]; rw [c10b0]) | skip)
            by_cases c11 : a1 = 27
            · rw [if_pos c11] at H
              have c11b0 : (a1 == 27) = true := beq_iff_eq.mpr c11
              have c11b1 : (a1 != 27) = false := bne_eq_false_iff_eq.mpr c11
              clear c11
              have H' := Aside0.mk H
              clear H
              go_wp2
              go_meet
              case rel => exact ⟨_, (true), (by first | rfl | (simp; done) | (simp [*]; done)), H', ⟨by have := HJ2.out; first | omega | exact Nat.le_refl _⟩, by repeat (first | exact Drawn0.refl _ | apply Drawn0.step)⟩
            · rw [if_neg c11] at H
              have c11b0 : (a1 == 27) = false := beq_eq_false_iff_ne.mpr c11
              have c11b1 : (a1 != 27) = true := bne_iff_ne.mpr c11
              replace H := Option.bind_eq_some_iff.mp H
              obtain ⟨t107, A120, H⟩ := H
              replace H : (spec_Transition.j1 kj2 a0 a1 t107) = some (r1, r2) := H
              have A12 := Aside0.mk A120
              clear A120
              have H' := Aside0.mk H
              clear H
              go_wp2_with (first | (go_at_call 21; (with_reducible refine (spec_within.calls a1 8 13 t107 _ A12.out).mono ?_); rintro e w' ⟨rfl, ⟨nd, rfl⟩⟩))
              go_meet
              case rel => exact ⟨_, (t107), (by first | rfl | (simp; done) | (simp [*]; done)), H', ⟨by have := HJ2.out; first | omega | exact Nat.le_refl _⟩, by repeat (first | exact Drawn0.refl _ | apply Drawn0.step)⟩
          · rw [if_neg c10] at H
            have c10b0 : (a0 == 4) = false := beq_eq_false_iff_ne.mpr c10
            have c10b1 : (a0 != 4) = true := bne_iff_ne.mpr c10
            (first | rw [c10b0] | (simp only [i64_w, i32_w]; rw [c10b0]) | skip)
            have H' := Aside0.mk H
            clear H
            go_wp2
            go_meet
            case rel => exact ⟨_, (false), (by first | rfl | (simp; done) | (simp [*]; done)), H', ⟨by have := HJ2.out; first | omega | exact Nat.le_refl _⟩, by repeat (first | exact Drawn0.refl _ | apply Drawn0.step)⟩
        case rest =>
          clear HC9
          try clear c1
          try clear c2
          try clear p2
          try clear c4
          try clear c4b0
          try clear c5
          try clear c5b0
          try clear c5b1
          try clear c6
          try clear c6b0
          try clear c6b1
          try clear p6
          try clear c7
          try clear c8
          try clear c10
          try clear c10b0
          try clear c10b1
          try clear c11
          try clear c11b0
          try clear c11b1
          try clear p2
          obtain ⟨kq, x42_8, rfl, HA, HJ8, ⟨mc8, rfl⟩⟩ := hcut
          cases kq with
          | zero => exact absurd HA.out (by simp [spec_Transition.j1])
          | succ kj8 =>
            have H := HA.out
            clear HA
            simp only [spec_Transition.j1] at H
            by_cases c13 : x42_8 = true
            · subst c13
              have H1 : (some (7, 7)) = some (r1, r2) := by rw [if_pos rfl] at H; exact H
              clear H
              have H := H1
              clear H1
              simp only [Option.some.injEq, Prod.mk.injEq] at H
              obtain ⟨rfl, rfl⟩ := H
              go_wp2
              go_ret2
              exact ⟨by first | rfl | (simp; done) | (simp [*]; done), by repeat (first | exact Drawn0.refl _ | apply Drawn0.step)⟩
            · replace c13 := Bool.eq_false_iff.mpr c13
              subst c13
              have H1 : ((spec_anywhere.f kj8 a1).bind fun bt108 => (if bt108.2.2 = true then (some (bt108.1, bt108.2.1)) else ((spec_within.f a1 32 47).bind fun t111 => ((spec_within.f a1 64 126).bind fun t112 => ((spec_within.f a1 48 59).bind fun t113 => ((spec_within.f a1 60 63).bind fun t114 => (if a0 = 0 then (if a1 < 32 then (some (0, 5)) else (if a1 = 127 then (some (0, 5)) else (some (0, 9)))) else (if a0 = 8 then (spec_Transition.j2 kj8 a0 a1 (decide (a1 < 32)) t111 t112 t113 t114 a0 (a0 == 8)) else (spec_Transition.j2 kj8 a0 a1 (decide (a1 < 32)) t111 t112 t113 t114 a0 (a0 == 9)))))))))) = some (r1, r2) := by rw [if_neg (show ¬ (false = true) by decide)] at H; exact H
              clear H
              have H := H1
              clear H1
              replace H := Option.bind_eq_some_iff.mp H
              obtain ⟨⟨t108, t109, t110⟩, A140, H⟩ := H
              replace H : (if t110 = true then (some (t108, t109)) else ((spec_within.f a1 32 47).bind fun t111 => ((spec_within.f a1 64 126).bind fun t112 => ((spec_within.f a1 48 59).bind fun t113 => ((spec_within.f a1 60 63).bind fun t114 => (if a0 = 0 then (if a1 < 32 then (some (0, 5)) else (if a1 = 127 then (some (0, 5)) else (some (0, 9)))) else (if a0 = 8 then (spec_Transition.j2 kj8 a0 a1 (decide (a1 < 32)) t111 t112 t113 t114 a0 (a0 == 8)) else (spec_Transition.j2 kj8 a0 a1 (decide (a1 < 32)) t111 t112 t113 t114 a0 (a0 == 9))))))))) = some (r1, r2) := H
              have A14 := Aside0.mk A140
              clear A140
              by_cases c15 : t110 = true
              · subst c15
                have H1 : (some (t108, t109)) = some (r1, r2) := by rw [if_pos rfl] at H; exact H
                clear H
                have H := H1
                clear H1
                simp only [Option.some.injEq, Prod.mk.injEq] at H
                obtain ⟨rfl, rfl⟩ := H
                go_wp2_with (first | ((with_reducible refine gate_callee (f := 22) rfl ?_); refine goesL_ (some 45) rfl rfl Tryd.func22 (by kernel_rfl) rfl #[.int .u8 a1] rfl (by (try simp only [List.map_toArray, List.map_cons, List.map_nil]); first | done | rfl | (simp only [List.length_drop, List.length_take]; rfl) | (simp [Act.eval, *]; done) | (simp [Act.eval, *]; unfold wrap64; omega)) ?_; (with_reducible refine (spec_anywhere.calls kj8 a1 t108 t109 true _ A14.out).mono ?_); rintro e w' ⟨rfl, ⟨nd, rfl⟩⟩; refine ⟨_, rfl, ?_⟩))
                go_ret2
                exact ⟨by first | rfl | (simp; done) | (simp [*]; done), by repeat (first | exact Drawn0.refl _ | apply Drawn0.step)⟩
              · replace c15 := Bool.eq_false_iff.mpr c15
                subst c15
                have H1 : ((spec_within.f a1 32 47).bind fun t111 => ((spec_within.f a1 64 126).bind fun t112 => ((spec_within.f a1 48 59).bind fun t113 => ((spec_within.f a1 60 63).bind fun t114 => (if a0 = 0 then (if a1 < 32 then (some (0, 5)) else (if a1 = 127 then (some (0, 5)) else (some (0, 9)))) else (if a0 = 8 then (spec_Transition.j2 kj8 a0 a1 (decide (a1 < 32)) t111 t112 t113 t114 a0 (a0 == 8)) else (spec_Transition.j2 kj8 a0 a1 (decide (a1 < 32)) t111 t112 t113 t114 a0 (a0 == 9)))))))) = some (r1, r2) := by rw [if_neg (show ¬ (false = true) by decide)] at H; exact H
                clear H
                have H := H1
                clear H1
                replace H := Option.bind_eq_some_iff.mp H
                obtain ⟨t111, A160, H⟩ := H
                replace H : ((spec_within.f a1 64 126).bind fun t112 => ((spec_within.f a1 48 59).bind fun t113 => ((spec_within.f a1 60 63).bind fun t114 => (if a0 = 0 then (if a1 < 32 then (some (0, 5)) else (if a1 = 127 then (some (0, 5)) else (some (0, 9)))) else (if a0 = 8 then (spec_Transition.j2 kj8 a0 a1 (decide (a1 < 32)) t111 t112 t113 t114 a0 (a0 == 8)) else (spec_Transition.j2 kj8 a0 a1 (decide (a1 < 32)) t111 t112 t113 t114 a0 (a0 == 9))))))) = some (r1, r2) := H
                have A16 := Aside0.mk A160
                clear A160
                replace H := Option.bind_eq_some_iff.mp H
                obtain ⟨t112, A170, H⟩ := H
                replace H : ((spec_within.f a1 48 59).bind fun t113 => ((spec_within.f a1 60 63).bind fun t114 => (if a0 = 0 then (if a1 < 32 then (some (0, 5)) else (if a1 = 127 then (some (0, 5)) else (some (0, 9)))) else (if a0 = 8 then (spec_Transition.j2 kj8 a0 a1 (decide (a1 < 32)) t111 t112 t113 t114 a0 (a0 == 8)) else (spec_Transition.j2 kj8 a0 a1 (decide (a1 < 32)) t111 t112 t113 t114 a0 (a0 == 9)))))) = some (r1, r2) := H
                have A17 := Aside0.mk A170
                clear A170
                replace H := Option.bind_eq_some_iff.mp H
                obtain ⟨t113, A180, H⟩ := H
                replace H : ((spec_within.f a1 60 63).bind fun t114 => (if a0 = 0 then (if a1 < 32 then (some (0, 5)) else (if a1 = 127 then (some (0, 5)) else (some (0, 9)))) else (if a0 = 8 then (spec_Transition.j2 kj8 a0 a1 (decide (a1 < 32)) t111 t112 t113 t114 a0 (a0 == 8)) else (spec_Transition.j2 kj8 a0 a1 (decide (a1 < 32)) t111 t112 t113 t114 a0 (a0 == 9))))) = some (r1, r2) := H
                have A18 := Aside0.mk A180
                clear A180
                replace H := Option.bind_eq_some_iff.mp H
                obtain ⟨t114, A190, H⟩ := H
                replace H : (if a0 = 0 then (if a1 < 32 then (some (0, 5)) else (if a1 = 127 then (some (0, 5)) else (some (0, 9)))) else (if a0 = 8 then (spec_Transition.j2 kj8 a0 a1 (decide (a1 < 32)) t111 t112 t113 t114 a0 (a0 == 8)) else (spec_Transition.j2 kj8 a0 a1 (decide (a1 < 32)) t111 t112 t113 t114 a0 (a0 == 9)))) = some (r1, r2) := H
                have A19 := Aside0.mk A190
                clear A190
                by_cases c20 : a0 = 0
                · rw [if_pos c20] at H
                  have c20b0 : (a0 == 0) = true := beq_iff_eq.mpr c20
                  have c20b1 : (a0 != 0) = false := bne_eq_false_iff_eq.mpr c20
                  clear c20
                  by_cases c21 : a1 < 32
                  · rw [if_pos c21] at H
                    have c21b0 : decide (a1 < 32) = true := decide_eq_true c21
                    clear c21
                    simp only [Option.some.injEq, Prod.mk.injEq] at H
                    obtain ⟨rfl, rfl⟩ := H
                    go_wp2_with (first | ((with_reducible refine gate_callee (f := 22) rfl ?_); refine goesL_ (some 45) rfl rfl Tryd.func22 (by kernel_rfl) rfl #[.int .u8 a1] rfl (by (try simp only [List.map_toArray, List.map_cons, List.map_nil]); first | done | rfl | (simp only [List.length_drop, List.length_take]; rfl) | (simp [Act.eval, *]; done) | (simp [Act.eval, *]; unfold wrap64; omega)) ?_; (with_reducible refine (spec_anywhere.calls kj8 a1 t108 t109 false _ A14.out).mono ?_); rintro e w' ⟨rfl, ⟨nd, rfl⟩⟩; refine ⟨_, rfl, ?_⟩) | ((with_reducible refine gate_callee (f := 21) rfl ?_); refine goesL_ (some 55) rfl rfl Tryd.func21 (by kernel_rfl) rfl #[.int .u8 a1, .int .u8 32, .int .u8 47] rfl (by (try simp only [List.map_toArray, List.map_cons, List.map_nil]); first | done | rfl | (simp only [List.length_drop, List.length_take]; rfl) | (simp [Act.eval, *]; done) | (simp [Act.eval, *]; unfold wrap64; omega)) ?_; (with_reducible refine (spec_within.calls a1 32 47 t111 _ A16.out).mono ?_); rintro e w' ⟨rfl, ⟨nd, rfl⟩⟩; refine ⟨_, rfl, ?_⟩) | ((with_reducible refine gate_callee (f := 21) rfl ?_); refine goesL_ (some 57) rfl rfl Tryd.func21 (by kernel_rfl) rfl #[.int .u8 a1, .int .u8 64, .int .u8 126] rfl (by (try simp only [List.map_toArray, List.map_cons, List.map_nil]); first | done | rfl | (simp only [List.length_drop, List.length_take]; rfl) | (simp [Act.eval, *]; done) | (simp [Act.eval, *]; unfold wrap64; omega)) ?_; (with_reducible refine (spec_within.calls a1 64 126 t112 _ A17.out).mono ?_); rintro e w' ⟨rfl, ⟨nd, rfl⟩⟩; refine ⟨_, rfl, ?_⟩) | ((with_reducible refine gate_callee (f := 21) rfl ?_); refine goesL_ (some 59) rfl rfl Tryd.func21 (by kernel_rfl) rfl #[.int .u8 a1, .int .u8 48, .int .u8 59] rfl (by (try simp only [List.map_toArray, List.map_cons, List.map_nil]); first | done | rfl | (simp only [List.length_drop, List.length_take]; rfl) | (simp [Act.eval, *]; done) | (simp [Act.eval, *]; unfold wrap64; omega)) ?_; (with_reducible refine (spec_within.calls a1 48 59 t113 _ A18.out).mono ?_); rintro e w' ⟨rfl, ⟨nd, rfl⟩⟩; refine ⟨_, rfl, ?_⟩) | ((with_reducible refine gate_callee (f := 21) rfl ?_); refine goesL_ (some 61) rfl rfl Tryd.func21 (by kernel_rfl) rfl #[.int .u8 a1, .int .u8 60, .int .u8 63] rfl (by (try simp only [List.map_toArray, List.map_cons, List.map_nil]); first | done | rfl | (simp only [List.length_drop, List.length_take]; rfl) | (simp [Act.eval, *]; done) | (simp [Act.eval, *]; unfold wrap64; omega)) ?_; (with_reducible refine (spec_within.calls a1 60 63 t114 _ A19.out).mono ?_); rintro e w' ⟨rfl, ⟨nd, rfl⟩⟩; refine ⟨_, rfl, ?_⟩))
                    go_ret2
                    exact ⟨by first | rfl | (simp; done) | (simp [*]; done), by repeat (first | exact Drawn0.refl _ | apply Drawn0.step)⟩
                  · rw [if_neg c21] at H
                    have c21b0 : decide (a1 < 32) = false := decide_eq_false c21
                    clear c21
                    by_cases c22 : a1 = 127
                    · rw [if_pos c22] at H
                      have c22b0 : (a1 == 127) = true := beq_iff_eq.mpr c22
                      have c22b1 : (a1 != 127) = false := bne_eq_false_iff_eq.mpr c22
                      clear c22
                      simp only [Option.some.injEq, Prod.mk.injEq] at H
                      obtain ⟨rfl, rfl⟩ := H
                      go_wp2_with (first | ((with_reducible refine gate_callee (f := 22) rfl ?_); refine goesL_ (some 45) rfl rfl Tryd.func22 (by kernel_rfl) rfl #[.int .u8 a1] rfl (by (try simp only [List.map_toArray, List.map_cons, List.map_nil]); first | done | rfl | (simp only [List.length_drop, List.length_take]; rfl) | (simp [Act.eval, *]; done) | (simp [Act.eval, *]; unfold wrap64; omega)) ?_; (with_reducible refine (spec_anywhere.calls kj8 a1 t108 t109 false _ A14.out).mono ?_); rintro e w' ⟨rfl, ⟨nd, rfl⟩⟩; refine ⟨_, rfl, ?_⟩) | ((with_reducible refine gate_callee (f := 21) rfl ?_); refine goesL_ (some 55) rfl rfl Tryd.func21 (by kernel_rfl) rfl #[.int .u8 a1, .int .u8 32, .int .u8 47] rfl (by (try simp only [List.map_toArray, List.map_cons, List.map_nil]); first | done | rfl | (simp only [List.length_drop, List.length_take]; rfl) | (simp [Act.eval, *]; done) | (simp [Act.eval, *]; unfold wrap64; omega)) ?_; (with_reducible refine (spec_within.calls a1 32 47 t111 _ A16.out).mono ?_); rintro e w' ⟨rfl, ⟨nd, rfl⟩⟩; refine ⟨_, rfl, ?_⟩) | ((with_reducible refine gate_callee (f := 21) rfl ?_); refine goesL_ (some 57) rfl rfl Tryd.func21 (by kernel_rfl) rfl #[.int .u8 a1, .int .u8 64, .int .u8 126] rfl (by (try simp only [List.map_toArray, List.map_cons, List.map_nil]); first | done | rfl | (simp only [List.length_drop, List.length_take]; rfl) | (simp [Act.eval, *]; done) | (simp [Act.eval, *]; unfold wrap64; omega)) ?_; (with_reducible refine (spec_within.calls a1 64 126 t112 _ A17.out).mono ?_); rintro e w' ⟨rfl, ⟨nd, rfl⟩⟩; refine ⟨_, rfl, ?_⟩) | ((with_reducible refine gate_callee (f := 21) rfl ?_); refine goesL_ (some 59) rfl rfl Tryd.func21 (by kernel_rfl) rfl #[.int .u8 a1, .int .u8 48, .int .u8 59] rfl (by (try simp only [List.map_toArray, List.map_cons, List.map_nil]); first | done | rfl | (simp only [List.length_drop, List.length_take]; rfl) | (simp [Act.eval, *]; done) | (simp [Act.eval, *]; unfold wrap64; omega)) ?_; (with_reducible refine (spec_within.calls a1 48 59 t113 _ A18.out).mono ?_); rintro e w' ⟨rfl, ⟨nd, rfl⟩⟩; refine ⟨_, rfl, ?_⟩) | ((with_reducible refine gate_callee (f := 21) rfl ?_); refine goesL_ (some 61) rfl rfl Tryd.func21 (by kernel_rfl) rfl #[.int .u8 a1, .int .u8 60, .int .u8 63] rfl (by (try simp only [List.map_toArray, List.map_cons, List.map_nil]); first | done | rfl | (simp only [List.length_drop, List.length_take]; rfl) | (simp [Act.eval, *]; done) | (simp [Act.eval, *]; unfold wrap64; omega)) ?_; (with_reducible refine (spec_within.calls a1 60 63 t114 _ A19.out).mono ?_); rintro e w' ⟨rfl, ⟨nd, rfl⟩⟩; refine ⟨_, rfl, ?_⟩))
                      go_ret2
                      exact ⟨by first | rfl | (simp; done) | (simp [*]; done), by repeat (first | exact Drawn0.refl _ | apply Drawn0.step)⟩
                    · rw [if_neg c22] at H
                      have c22b0 : (a1 == 127) = false := beq_eq_false_iff_ne.mpr c22
                      have c22b1 : (a1 != 127) = true := bne_iff_ne.mpr c22
                      simp only [Option.some.injEq, Prod.mk.injEq] at H
                      obtain ⟨rfl, rfl⟩ := H
                      go_wp2_with (first | ((with_reducible refine gate_callee (f := 22) rfl ?_); refine goesL_ (some 45) rfl rfl Tryd.func22 (by kernel_rfl) rfl #[.int .u8 a1] rfl (by (try simp only [List.map_toArray, List.map_cons, List.map_nil]); first | done | rfl | (simp only [List.length_drop, List.length_take]; rfl) | (simp [Act.eval, *]; done) | (simp [Act.eval, *]; unfold wrap64; omega)) ?_; (with_reducible refine (spec_anywhere.calls kj8 a1 t108 t109 false _ A14.out).mono ?_); rintro e w' ⟨rfl, ⟨nd, rfl⟩⟩; refine ⟨_, rfl, ?_⟩) | ((with_reducible refine gate_callee (f := 21) rfl ?_); refine goesL_ (some 55) rfl rfl Tryd.func21 (by kernel_rfl) rfl #[.int .u8 a1, .int .u8 32, .int .u8 47] rfl (by (try simp only [List.map_toArray, List.map_cons, List.map_nil]); first | done | rfl | (simp only [List.length_drop, List.length_take]; rfl) | (simp [Act.eval, *]; done) | (simp [Act.eval, *]; unfold wrap64; omega)) ?_; (with_reducible refine (spec_within.calls a1 32 47 t111 _ A16.out).mono ?_); rintro e w' ⟨rfl, ⟨nd, rfl⟩⟩; refine ⟨_, rfl, ?_⟩) | ((with_reducible refine gate_callee (f := 21) rfl ?_); refine goesL_ (some 57) rfl rfl Tryd.func21 (by kernel_rfl) rfl #[.int .u8 a1, .int .u8 64, .int .u8 126] rfl (by (try simp only [List.map_toArray, List.map_cons, List.map_nil]); first | done | rfl | (simp only [List.length_drop, List.length_take]; rfl) | (simp [Act.eval, *]; done) | (simp [Act.eval, *]; unfold wrap64; omega)) ?_; (with_reducible refine (spec_within.calls a1 64 126 t112 _ A17.out).mono ?_); rintro e w' ⟨rfl, ⟨nd, rfl⟩⟩; refine ⟨_, rfl, ?_⟩) | ((with_reducible refine gate_callee (f := 21) rfl ?_); refine goesL_ (some 59) rfl rfl Tryd.func21 (by kernel_rfl) rfl #[.int .u8 a1, .int .u8 48, .int .u8 59] rfl (by (try simp only [List.map_toArray, List.map_cons, List.map_nil]); first | done | rfl | (simp only [List.length_drop, List.length_take]; rfl) | (simp [Act.eval, *]; done) | (simp [Act.eval, *]; unfold wrap64; omega)) ?_; (with_reducible refine (spec_within.calls a1 48 59 t113 _ A18.out).mono ?_); rintro e w' ⟨rfl, ⟨nd, rfl⟩⟩; refine ⟨_, rfl, ?_⟩) | ((with_reducible refine gate_callee (f := 21) rfl ?_); refine goesL_ (some 61) rfl rfl Tryd.func21 (by kernel_rfl) rfl #[.int .u8 a1, .int .u8 60, .int .u8 63] rfl (by (try simp only [List.map_toArray, List.map_cons, List.map_nil]); first | done | rfl | (simp only [List.length_drop, List.length_take]; rfl) | (simp [Act.eval, *]; done) | (simp [Act.eval, *]; unfold wrap64; omega)) ?_; (with_reducible refine (spec_within.calls a1 60 63 t114 _ A19.out).mono ?_); rintro e w' ⟨rfl, ⟨nd, rfl⟩⟩; refine ⟨_, rfl, ?_⟩))
                      go_ret2
                      exact ⟨by first | rfl | (simp; done) | (simp [*]; done), by repeat (first | exact Drawn0.refl _ | apply Drawn0.step)⟩
                · rw [if_neg c20] at H
                  have c20b0 : (a0 == 0) = false := beq_eq_false_iff_ne.mpr c20
                  have c20b1 : (a0 != 0) = true := bne_iff_ne.mpr c20
                  have HC23 := Aside0.mk H
                  clear H
                  go_upto_if 70 with (first | ((with_reducible refine gate_callee (f := 22) rfl ?_); refine goesL_ (some 45) rfl rfl Tryd.func22 (by kernel_rfl) rfl #[.int .u8 a1] rfl (by (try simp only [List.map_toArray, List.map_cons, List.map_nil]); first | done | rfl | (simp only [List.length_drop, List.length_take]; rfl) | (simp [Act.eval, *]; done) | (simp [Act.eval, *]; unfold wrap64; omega)) ?_; (with_reducible refine (spec_anywhere.calls kj8 a1 t108 t109 false _ A14.out).mono ?_); rintro e w' ⟨rfl, ⟨nd, rfl⟩⟩; refine ⟨_, rfl, ?_⟩) | ((with_reducible refine gate_callee (f := 21) rfl ?_); refine goesL_ (some 55) rfl rfl Tryd.func21 (by kernel_rfl) rfl #[.int .u8 a1, .int .u8 32, .int .u8 47] rfl (by (try simp only [List.map_toArray, List.map_cons, List.map_nil]); first | done | rfl | (simp only [List.length_drop, List.length_take]; rfl) | (simp [Act.eval, *]; done) | (simp [Act.eval, *]; unfold wrap64; omega)) ?_; (with_reducible refine (spec_within.calls a1 32 47 t111 _ A16.out).mono ?_); rintro e w' ⟨rfl, ⟨nd, rfl⟩⟩; refine ⟨_, rfl, ?_⟩) | ((with_reducible refine gate_callee (f := 21) rfl ?_); refine goesL_ (some 57) rfl rfl Tryd.func21 (by kernel_rfl) rfl #[.int .u8 a1, .int .u8 64, .int .u8 126] rfl (by (try simp only [List.map_toArray, List.map_cons, List.map_nil]); first | done | rfl | (simp only [List.length_drop, List.length_take]; rfl) | (simp [Act.eval, *]; done) | (simp [Act.eval, *]; unfold wrap64; omega)) ?_; (with_reducible refine (spec_within.calls a1 64 126 t112 _ A17.out).mono ?_); rintro e w' ⟨rfl, ⟨nd, rfl⟩⟩; refine ⟨_, rfl, ?_⟩) | ((with_reducible refine gate_callee (f := 21) rfl ?_); refine goesL_ (some 59) rfl rfl Tryd.func21 (by kernel_rfl) rfl #[.int .u8 a1, .int .u8 48, .int .u8 59] rfl (by (try simp only [List.map_toArray, List.map_cons, List.map_nil]); first | done | rfl | (simp only [List.length_drop, List.length_take]; rfl) | (simp [Act.eval, *]; done) | (simp [Act.eval, *]; unfold wrap64; omega)) ?_; (with_reducible refine (spec_within.calls a1 48 59 t113 _ A18.out).mono ?_); rintro e w' ⟨rfl, ⟨nd, rfl⟩⟩; refine ⟨_, rfl, ?_⟩) | ((with_reducible refine gate_callee (f := 21) rfl ?_); refine goesL_ (some 61) rfl rfl Tryd.func21 (by kernel_rfl) rfl #[.int .u8 a1, .int .u8 60, .int .u8 63] rfl (by (try simp only [List.map_toArray, List.map_cons, List.map_nil]); first | done | rfl | (simp only [List.length_drop, List.length_take]; rfl) | (simp [Act.eval, *]; done) | (simp [Act.eval, *]; unfold wrap64; omega)) ?_; (with_reducible refine (spec_within.calls a1 60 63 t114 _ A19.out).mono ?_); rintro e w' ⟨rfl, ⟨nd, rfl⟩⟩; refine ⟨_, rfl, ?_⟩))
                  (try simp only [Act.put, List.setIfInBounds_toArray, List.set_cons_zero, List.set_cons_succ])
                  go_cut [70] (fun v70 wc => ∃ (kq : Nat) (x70_22 : Bool), v70 = .bool x70_22 ∧ Aside0 (spec_Transition.j2 kq a0 a1 (decide (a1 < 32)) t111 t112 t113 t114 a0 x70_22 = some (r1, r2)) ∧ Aside0 (kq ≤ kj8) ∧ Drawn0 w wc)
                  case first =>
                    have H := HC23.out
                    clear HC23
                    by_cases c24 : a0 = 8
                    · rw [if_pos c24] at H
                      have c24b0 : (a0 == 8) = true := beq_iff_eq.mpr c24
                      have c24b1 : (a0 != 8) = false := bne_eq_false_iff_eq.mpr c24
                      clear c24
                      (first | rw [c24b0] | (simp only [i64_w, i32_w]; rw [c24b0]) | skip)
                      have H' := Aside0.mk H
                      clear H
                      go_wp2
                      go_meet
                      case rel => exact ⟨_, ((a0 == 8)), (by first | rfl | (simp; done) | (simp [*]; done)), H', ⟨by have := HJ2.out; have := HJ8.out; first | omega | exact Nat.le_refl _⟩, by repeat (first | exact Drawn0.refl _ | apply Drawn0.step)⟩
                    · rw [if_neg c24] at H
                      have c24b0 : (a0 == 8) = false := beq_eq_false_iff_ne.mpr c24
                      have c24b1 : (a0 != 8) = true := bne_iff_ne.mpr c24
                      (first | rw [c24b0] | (simp only [i64_w, i32_w]; rw [c24b0]) | skip)
                      have H' := Aside0.mk H
                      clear H
                      go_wp2
                      go_meet
                      case rel => exact ⟨_, ((a0 == 9)), (by first | rfl | (simp; done) | (simp [*]; done)), H', ⟨by have := HJ2.out; have := HJ8.out; first | omega | exact Nat.le_refl _⟩, by repeat (first | exact Drawn0.refl _ | apply Drawn0.step)⟩
                  case rest =>
                    clear HC23
                    try clear c1
                    try clear c2
                    try clear p2
                    try clear c4
                    try clear c4b0
                    try clear c5
                    try clear c5b0
                    try clear c5b1
                    try clear c6
                    try clear c6b0
                    try clear c6b1
                    try clear p6
                    try clear c7
                    try clear c8
                    try clear c10
                    try clear c10b0
                    try clear c10b1
                    try clear c11
                    try clear c11b0
                    try clear c11b1
                    try clear c13
                    try clear c15
                    try clear c20
                    try clear c20b0
                    try clear c20b1
                    try clear c21
                    try clear c21b0
                    try clear c22
                    try clear c22b0
                    try clear c22b1
                    try clear c24
                    try clear c24b0
                    try clear c24b1
                    try clear p2
                    try clear p6
                    obtain ⟨kq, x70_22, rfl, HA, HJ22, ⟨mc22, rfl⟩⟩ := hcut
                    generalize decide (a1 < 32) = t9 at HA ⊢
                    cases kq with
                    | zero => exact absurd HA.out (by simp [spec_Transition.j2])
                    | succ kj22 =>
                      have H := HA.out
                      clear HA
                      simp only [spec_Transition.j2] at H
                      by_cases c25 : x70_22 = true
                      · subst c25
                        have H1 : (if t9 = true then (some (a0, 5)) else (if t111 = true then (some (9, 2)) else (if a1 = 127 then (some (a0, 0)) else (if a0 = 8 then (if a1 = 80 then (some (4, 1)) else (if a1 = 88 then (some (11, 6)) else (if a1 = 91 then (some (1, 1)) else (if a1 = 93 then (some (10, 6)) else (if a1 = 94 then (some (12, 6)) else (if a1 = 95 then (some (13, 6)) else (some (0, 4)))))))) else (some (0, 4)))))) = some (r1, r2) := by rw [if_pos rfl] at H; exact H
                        clear H
                        have H := H1
                        clear H1
                        by_cases c26 : t9 = true
                        · rw [if_pos c26] at H
                          subst c26
                          simp only [Option.some.injEq, Prod.mk.injEq] at H
                          obtain ⟨rfl, rfl⟩ := H
                          go_wp2
                          go_ret2
                          exact ⟨by first | rfl | (simp; done) | (simp [*]; done), by repeat (first | exact Drawn0.refl _ | apply Drawn0.step)⟩
                        · rw [if_neg c26] at H
                          obtain rfl : t9 = false := by simpa using c26
                          clear c26
                          by_cases c27 : t111 = true
                          · subst c27
                            have H1 : (some (9, 2)) = some (r1, r2) := by rw [if_pos rfl] at H; exact H
                            clear H
                            have H := H1
                            clear H1
                            simp only [Option.some.injEq, Prod.mk.injEq] at H
                            obtain ⟨rfl, rfl⟩ := H
                            go_wp2
                            go_ret2
                            exact ⟨by first | rfl | (simp; done) | (simp [*]; done), by repeat (first | exact Drawn0.refl _ | apply Drawn0.step)⟩
                          · replace c27 := Bool.eq_false_iff.mpr c27
                            subst c27
                            have H1 : (if a1 = 127 then (some (a0, 0)) else (if a0 = 8 then (if a1 = 80 then (some (4, 1)) else (if a1 = 88 then (some (11, 6)) else (if a1 = 91 then (some (1, 1)) else (if a1 = 93 then (some (10, 6)) else (if a1 = 94 then (some (12, 6)) else (if a1 = 95 then (some (13, 6)) else (some (0, 4)))))))) else (some (0, 4)))) = some (r1, r2) := by rw [if_neg (show ¬ (false = true) by decide)] at H; exact H
                            clear H
                            have H := H1
                            clear H1
                            by_cases c28 : a1 = 127
                            · rw [if_pos c28] at H
                              have c28b0 : (a1 == 127) = true := beq_iff_eq.mpr c28
                              have c28b1 : (a1 != 127) = false := bne_eq_false_iff_eq.mpr c28
                              clear c28
                              simp only [Option.some.injEq, Prod.mk.injEq] at H
                              obtain ⟨rfl, rfl⟩ := H
                              go_wp2
                              go_ret2
                              exact ⟨by first | rfl | (simp; done) | (simp [*]; done), by repeat (first | exact Drawn0.refl _ | apply Drawn0.step)⟩
                            · rw [if_neg c28] at H
                              have c28b0 : (a1 == 127) = false := beq_eq_false_iff_ne.mpr c28
                              have c28b1 : (a1 != 127) = true := bne_iff_ne.mpr c28
                              by_cases c29 : a0 = 8
                              · rw [if_pos c29] at H
                                have c29b0 : (a0 == 8) = true := beq_iff_eq.mpr c29
                                have c29b1 : (a0 != 8) = false := bne_eq_false_iff_eq.mpr c29
                                clear c29
                                by_cases c30 : a1 = 80
                                · rw [if_pos c30] at H
                                  have c30b0 : (a1 == 80) = true := beq_iff_eq.mpr c30
                                  have c30b1 : (a1 != 80) = false := bne_eq_false_iff_eq.mpr c30
                                  clear c30
                                  simp only [Option.some.injEq, Prod.mk.injEq] at H
                                  obtain ⟨rfl, rfl⟩ := H
                                  go_wp2
                                  go_ret2
                                  exact ⟨by first | rfl | (simp; done) | (simp [*]; done), by repeat (first | exact Drawn0.refl _ | apply Drawn0.step)⟩
                                · rw [if_neg c30] at H
                                  have c30b0 : (a1 == 80) = false := beq_eq_false_iff_ne.mpr c30
                                  have c30b1 : (a1 != 80) = true := bne_iff_ne.mpr c30
                                  by_cases c31 : a1 = 88
                                  · rw [if_pos c31] at H
                                    have c31b0 : (a1 == 88) = true := beq_iff_eq.mpr c31
                                    have c31b1 : (a1 != 88) = false := bne_eq_false_iff_eq.mpr c31
                                    clear c31
                                    simp only [Option.some.injEq, Prod.mk.injEq] at H
                                    obtain ⟨rfl, rfl⟩ := H
                                    go_wp2
                                    go_ret2
                                    exact ⟨by first | rfl | (simp; done) | (simp [*]; done), by repeat (first | exact Drawn0.refl _ | apply Drawn0.step)⟩
                                  · rw [if_neg c31] at H
                                    have c31b0 : (a1 == 88) = false := beq_eq_false_iff_ne.mpr c31
                                    have c31b1 : (a1 != 88) = true := bne_iff_ne.mpr c31
                                    by_cases c32 : a1 = 91
                                    · rw [if_pos c32] at H
                                      have c32b0 : (a1 == 91) = true := beq_iff_eq.mpr c32
                                      have c32b1 : (a1 != 91) = false := bne_eq_false_iff_eq.mpr c32
                                      clear c32
                                      simp only [Option.some.injEq, Prod.mk.injEq] at H
                                      obtain ⟨rfl, rfl⟩ := H
                                      go_wp2
                                      go_ret2
                                      exact ⟨by first | rfl | (simp; done) | (simp [*]; done), by repeat (first | exact Drawn0.refl _ | apply Drawn0.step)⟩
                                    · rw [if_neg c32] at H
                                      have c32b0 : (a1 == 91) = false := beq_eq_false_iff_ne.mpr c32
                                      have c32b1 : (a1 != 91) = true := bne_iff_ne.mpr c32
                                      by_cases c33 : a1 = 93
                                      · rw [if_pos c33] at H
                                        have c33b0 : (a1 == 93) = true := beq_iff_eq.mpr c33
                                        have c33b1 : (a1 != 93) = false := bne_eq_false_iff_eq.mpr c33
                                        clear c33
                                        simp only [Option.some.injEq, Prod.mk.injEq] at H
                                        obtain ⟨rfl, rfl⟩ := H
                                        go_wp2
                                        go_ret2
                                        exact ⟨by first | rfl | (simp; done) | (simp [*]; done), by repeat (first | exact Drawn0.refl _ | apply Drawn0.step)⟩
                                      · rw [if_neg c33] at H
                                        have c33b0 : (a1 == 93) = false := beq_eq_false_iff_ne.mpr c33
                                        have c33b1 : (a1 != 93) = true := bne_iff_ne.mpr c33
                                        by_cases c34 : a1 = 94
                                        · rw [if_pos c34] at H
                                          have c34b0 : (a1 == 94) = true := beq_iff_eq.mpr c34
                                          have c34b1 : (a1 != 94) = false := bne_eq_false_iff_eq.mpr c34
                                          clear c34
                                          simp only [Option.some.injEq, Prod.mk.injEq] at H
                                          obtain ⟨rfl, rfl⟩ := H
                                          go_wp2
                                          go_ret2
                                          exact ⟨by first | rfl | (simp; done) | (simp [*]; done), by repeat (first | exact Drawn0.refl _ | apply Drawn0.step)⟩
                                        · rw [if_neg c34] at H
                                          have c34b0 : (a1 == 94) = false := beq_eq_false_iff_ne.mpr c34
                                          have c34b1 : (a1 != 94) = true := bne_iff_ne.mpr c34
                                          by_cases c35 : a1 = 95
                                          · rw [if_pos c35] at H
                                            have c35b0 : (a1 == 95) = true := beq_iff_eq.mpr c35
                                            have c35b1 : (a1 != 95) = false := bne_eq_false_iff_eq.mpr c35
                                            clear c35
                                            simp only [Option.some.injEq, Prod.mk.injEq] at H
                                            obtain ⟨rfl, rfl⟩ := H
                                            go_wp2
                                            go_ret2
                                            exact ⟨by first | rfl | (simp; done) | (simp [*]; done), by repeat (first | exact Drawn0.refl _ | apply Drawn0.step)⟩
                                          · rw [if_neg c35] at H
                                            have c35b0 : (a1 == 95) = false := beq_eq_false_iff_ne.mpr c35
                                            have c35b1 : (a1 != 95) = true := bne_iff_ne.mpr c35
                                            simp only [Option.some.injEq, Prod.mk.injEq] at H
                                            obtain ⟨rfl, rfl⟩ := H
                                            go_wp2
                                            go_ret2
                                            exact ⟨by first | rfl | (simp; done) | (simp [*]; done), by repeat (first | exact Drawn0.refl _ | apply Drawn0.step)⟩
                              · rw [if_neg c29] at H
                                have c29b0 : (a0 == 8) = false := beq_eq_false_iff_ne.mpr c29
                                have c29b1 : (a0 != 8) = true := bne_iff_ne.mpr c29
                                simp only [Option.some.injEq, Prod.mk.injEq] at H
                                obtain ⟨rfl, rfl⟩ := H
                                go_wp2
                                go_ret2
                                exact ⟨by first | rfl | (simp; done) | (simp [*]; done), by repeat (first | exact Drawn0.refl _ | apply Drawn0.step)⟩
                      · replace c25 := Bool.eq_false_iff.mpr c25
                        subst c25
                        have H1 : (if a0 = 1 then (spec_Transition.j3 kj22 a0 a1 t9 t111 t112 t113 t114 a0 (a0 == 1)) else (if a0 = 2 then (spec_Transition.j3 kj22 a0 a1 t9 t111 t112 t113 t114 a0 (a0 == 2)) else (spec_Transition.j3 kj22 a0 a1 t9 t111 t112 t113 t114 a0 (a0 == 3)))) = some (r1, r2) := by rw [if_neg (show ¬ (false = true) by decide)] at H; exact H
                        clear H
                        have H := H1
                        clear H1
                        have HC36 := Aside0.mk H
                        clear H
                        go_upto_if 97 with (fail)
                        go_cut [97] (fun v97 wc => ∃ (kq : Nat) (x97_35 : Bool), v97 = .bool x97_35 ∧ Aside0 (spec_Transition.j3 kq a0 a1 t9 t111 t112 t113 t114 a0 x97_35 = some (r1, r2)) ∧ Aside0 (kq ≤ kj22) ∧ Drawn0 w wc)
                        case first =>
                          have H := HC36.out
                          clear HC36
                          by_cases c37 : a0 = 1
                          · rw [if_pos c37] at H
                            have c37b0 : (a0 == 1) = true := beq_iff_eq.mpr c37
                            have c37b1 : (a0 != 1) = false := bne_eq_false_iff_eq.mpr c37
                            clear c37
                            (first | rw [c37b0] | (simp only [i64_w, i32_w]; rw [c37b0]) | skip)
                            have H' := Aside0.mk H
                            clear H
                            go_wp2
                            go_meet
                            case rel => exact ⟨_, ((a0 == 1)), (by first | rfl | (simp; done) | (simp [*]; done)), H', ⟨by have := HJ2.out; have := HJ8.out; have := HJ22.out; first | omega | exact Nat.le_refl _⟩, by repeat (first | exact Drawn0.refl _ | apply Drawn0.step)⟩
                          · rw [if_neg c37] at H
                            have c37b0 : (a0 == 1) = false := beq_eq_false_iff_ne.mpr c37
                            have c37b1 : (a0 != 1) = true := bne_iff_ne.mpr c37
                            (first | rw [c37b0] | (simp only [i64_w, i32_w]; rw [c37b0]) | skip)
                            by_cases c38 : a0 = 2
                            · rw [if_pos c38] at H
                              have c38b0 : (a0 == 2) = true := beq_iff_eq.mpr c38
                              have c38b1 : (a0 != 2) = false := bne_eq_false_iff_eq.mpr c38
                              clear c38
                              have H' := Aside0.mk H
                              clear H
                              go_wp2
                              go_meet
                              case rel => exact ⟨_, ((a0 == 2)), (by first | rfl | (simp; done) | (simp [*]; done)), H', ⟨by have := HJ2.out; have := HJ8.out; have := HJ22.out; first | omega | exact Nat.le_refl _⟩, by repeat (first | exact Drawn0.refl _ | apply Drawn0.step)⟩
                            · rw [if_neg c38] at H
                              have c38b0 : (a0 == 2) = false := beq_eq_false_iff_ne.mpr c38
                              have c38b1 : (a0 != 2) = true := bne_iff_ne.mpr c38
                              have H' := Aside0.mk H
                              clear H
                              go_wp2
                              go_meet
                              case rel => exact ⟨_, ((a0 == 3)), (by first | rfl | (simp; done) | (simp [*]; done)), H', ⟨by have := HJ2.out; have := HJ8.out; have := HJ22.out; first | omega | exact Nat.le_refl _⟩, by repeat (first | exact Drawn0.refl _ | apply Drawn0.step)⟩
                        case rest =>
                          clear HC36
                          try clear c1
                          try clear c2
                          try clear p2
                          try clear c3
                          try clear c4
                          try clear c4b0
                          try clear c5
                          try clear c5b0
                          try clear c5b1
                          try clear c6
                          try clear c6b0
                          try clear c6b1
                          try clear p6
                          try clear c7
                          try clear c8
                          try clear c10
                          try clear c10b0
                          try clear c10b1
                          try clear c11
                          try clear c11b0
                          try clear c11b1
                          try clear c13
                          try clear c15
                          try clear c20
                          try clear c20b0
                          try clear c20b1
                          try clear c21
                          try clear c21b0
                          try clear c22
                          try clear c22b0
                          try clear c22b1
                          try clear c24
                          try clear c24b0
                          try clear c24b1
                          try clear c25
                          try clear c26
                          try clear c26b0
                          try clear c27
                          try clear c28
                          try clear c28b0
                          try clear c28b1
                          try clear c29
                          try clear c29b0
                          try clear c29b1
                          try clear c30
                          try clear c30b0
                          try clear c30b1
                          try clear c31
                          try clear c31b0
                          try clear c31b1
                          try clear c32
                          try clear c32b0
                          try clear c32b1
                          try clear c33
                          try clear c33b0
                          try clear c33b1
                          try clear c34
                          try clear c34b0
                          try clear c34b1
                          try clear c35
                          try clear c35b0
                          try clear c35b1
                          try clear c37
                          try clear c37b0
                          try clear c37b1
                          try clear c38
                          try clear c38b0
                          try clear c38b1
                          try clear p2
                          try clear p6
                          obtain ⟨kq, x97_35, rfl, HA, HJ35, ⟨mc35, rfl⟩⟩ := hcut
                          cases kq with
                          | zero => exact absurd HA.out (by simp [spec_Transition.j3])
                          | succ kj35 =>
                            have H := HA.out
                            clear HA
                            simp only [spec_Transition.j3] at H
                            by_cases c39 : x97_35 = true
                            · subst c39
                              have H1 : (if t9 = true then (some (a0, 5)) else (if t111 = true then (some (2, 2)) else (if t112 = true then (some (0, 4)) else (if a1 = 127 then (some (a0, 0)) else (if a0 = 2 then (some (0, 0)) else (if t113 = true then (some (3, 8)) else (if t114 = true then (if a0 = 1 then (some (3, 3)) else (some (a0, 0))) else (some (a0, 0))))))))) = some (r1, r2) := by rw [if_pos rfl] at H; exact H
                              clear H
                              have H := H1
                              clear H1
                              by_cases c40 : t9 = true
                              · rw [if_pos c40] at H
                                subst c40
                                simp only [Option.some.injEq, Prod.mk.injEq] at H
                                obtain ⟨rfl, rfl⟩ := H
                                go_wp2
                                go_ret2
                                exact ⟨by first | rfl | (simp; done) | (simp [*]; done), by repeat (first | exact Drawn0.refl _ | apply Drawn0.step)⟩
                              · rw [if_neg c40] at H
                                obtain rfl : t9 = false := by simpa using c40
                                clear c40
                                by_cases c41 : t111 = true
                                · subst c41
                                  have H1 : (some (2, 2)) = some (r1, r2) := by rw [if_pos rfl] at H; exact H
                                  clear H
                                  have H := H1
                                  clear H1
                                  simp only [Option.some.injEq, Prod.mk.injEq] at H
                                  obtain ⟨rfl, rfl⟩ := H
                                  go_wp2
                                  go_ret2
                                  exact ⟨by first | rfl | (simp; done) | (simp [*]; done), by repeat (first | exact Drawn0.refl _ | apply Drawn0.step)⟩
                                · replace c41 := Bool.eq_false_iff.mpr c41
                                  subst c41
                                  have H1 : (if t112 = true then (some (0, 4)) else (if a1 = 127 then (some (a0, 0)) else (if a0 = 2 then (some (0, 0)) else (if t113 = true then (some (3, 8)) else (if t114 = true then (if a0 = 1 then (some (3, 3)) else (some (a0, 0))) else (some (a0, 0))))))) = some (r1, r2) := by rw [if_neg (show ¬ (false = true) by decide)] at H; exact H
                                  clear H
                                  have H := H1
                                  clear H1
                                  by_cases c42 : t112 = true
                                  · subst c42
                                    have H1 : (some (0, 4)) = some (r1, r2) := by rw [if_pos rfl] at H; exact H
                                    clear H
                                    have H := H1
                                    clear H1
                                    simp only [Option.some.injEq, Prod.mk.injEq] at H
                                    obtain ⟨rfl, rfl⟩ := H
                                    go_wp2
                                    go_ret2
                                    exact ⟨by first | rfl | (simp; done) | (simp [*]; done), by repeat (first | exact Drawn0.refl _ | apply Drawn0.step)⟩
                                  · replace c42 := Bool.eq_false_iff.mpr c42
                                    subst c42
                                    have H1 : (if a1 = 127 then (some (a0, 0)) else (if a0 = 2 then (some (0, 0)) else (if t113 = true then (some (3, 8)) else (if t114 = true then (if a0 = 1 then (some (3, 3)) else (some (a0, 0))) else (some (a0, 0)))))) = some (r1, r2) := by rw [if_neg (show ¬ (false = true) by decide)] at H; exact H
                                    clear H
                                    have H := H1
                                    clear H1
                                    by_cases c43 : a1 = 127
                                    · rw [if_pos c43] at H
                                      have c43b0 : (a1 == 127) = true := beq_iff_eq.mpr c43
                                      have c43b1 : (a1 != 127) = false := bne_eq_false_iff_eq.mpr c43
                                      clear c43
                                      simp only [Option.some.injEq, Prod.mk.injEq] at H
                                      obtain ⟨rfl, rfl⟩ := H
                                      go_wp2
                                      go_ret2
                                      exact ⟨by first | rfl | (simp; done) | (simp [*]; done), by repeat (first | exact Drawn0.refl _ | apply Drawn0.step)⟩
                                    · rw [if_neg c43] at H
                                      have c43b0 : (a1 == 127) = false := beq_eq_false_iff_ne.mpr c43
                                      have c43b1 : (a1 != 127) = true := bne_iff_ne.mpr c43
                                      by_cases c44 : a0 = 2
                                      · rw [if_pos c44] at H
                                        have c44b0 : (a0 == 2) = true := beq_iff_eq.mpr c44
                                        have c44b1 : (a0 != 2) = false := bne_eq_false_iff_eq.mpr c44
                                        clear c44
                                        simp only [Option.some.injEq, Prod.mk.injEq] at H
                                        obtain ⟨rfl, rfl⟩ := H
                                        go_wp2
                                        go_ret2
                                        exact ⟨by first | rfl | (simp; done) | (simp [*]; done), by repeat (first | exact Drawn0.refl _ | apply Drawn0.step)⟩
                                      · rw [if_neg c44] at H
                                        have c44b0 : (a0 == 2) = false := beq_eq_false_iff_ne.mpr c44
                                        have c44b1 : (a0 != 2) = true := bne_iff_ne.mpr c44
                                        by_cases c45 : t113 = true
                                        · subst c45
                                          have H1 : (some (3, 8)) = some (r1, r2) := by rw [if_pos rfl] at H; exact H
                                          clear H
                                          have H := H1
                                          clear H1
                                          simp only [Option.some.injEq, Prod.mk.injEq] at H
                                          obtain ⟨rfl, rfl⟩ := H
                                          go_wp2
                                          go_ret2
                                          exact ⟨by first | rfl | (simp; done) | (simp [*]; done), by repeat (first | exact Drawn0.refl _ | apply Drawn0.step)⟩
                                        · replace c45 := Bool.eq_false_iff.mpr c45
                                          subst c45
                                          have H1 : (if t114 = true then (if a0 = 1 then (some (3, 3)) else (some (a0, 0))) else (some (a0, 0))) = some (r1, r2) := by rw [if_neg (show ¬ (false = true) by decide)] at H; exact H
                                          clear H
                                          have H := H1
                                          clear H1
                                          by_cases c46 : t114 = true
                                          · subst c46
                                            have H1 : (if a0 = 1 then (some (3, 3)) else (some (a0, 0))) = some (r1, r2) := by rw [if_pos rfl] at H; exact H
                                            clear H
                                            have H := H1
                                            clear H1
                                            by_cases c47 : a0 = 1
                                            · rw [if_pos c47] at H
                                              have c47b0 : (a0 == 1) = true := beq_iff_eq.mpr c47
                                              have c47b1 : (a0 != 1) = false := bne_eq_false_iff_eq.mpr c47
                                              clear c47
                                              simp only [Option.some.injEq, Prod.mk.injEq] at H
                                              obtain ⟨rfl, rfl⟩ := H
                                              go_wp2
                                              go_ret2
                                              exact ⟨by first | rfl | (simp; done) | (simp [*]; done), by repeat (first | exact Drawn0.refl _ | apply Drawn0.step)⟩
                                            · rw [if_neg c47] at H
                                              have c47b0 : (a0 == 1) = false := beq_eq_false_iff_ne.mpr c47
                                              have c47b1 : (a0 != 1) = true := bne_iff_ne.mpr c47
                                              simp only [Option.some.injEq, Prod.mk.injEq] at H
                                              obtain ⟨rfl, rfl⟩ := H
                                              go_wp2
                                              go_ret2
                                              exact ⟨by first | rfl | (simp; done) | (simp [*]; done), by repeat (first | exact Drawn0.refl _ | apply Drawn0.step)⟩
                                          · replace c46 := Bool.eq_false_iff.mpr c46
                                            subst c46
                                            have H1 : (some (a0, 0)) = some (r1, r2) := by rw [if_neg (show ¬ (false = true) by decide)] at H; exact H
                                            clear H
                                            have H := H1
                                            clear H1
                                            simp only [Option.some.injEq, Prod.mk.injEq] at H
                                            obtain ⟨rfl, rfl⟩ := H
                                            go_wp2
                                            go_ret2
                                            exact ⟨by first | rfl | (simp; done) | (simp [*]; done), by repeat (first | exact Drawn0.refl _ | apply Drawn0.step)⟩
                            · replace c39 := Bool.eq_false_iff.mpr c39
                              subst c39
                              have H1 : (if a0 = 4 then (spec_Transition.j4 kj35 a0 a1 t111 t112 t113 t114 (a0 == 4)) else (if a0 = 5 then (spec_Transition.j4 kj35 a0 a1 t111 t112 t113 t114 (a0 == 5)) else (spec_Transition.j4 kj35 a0 a1 t111 t112 t113 t114 (a0 == 6)))) = some (r1, r2) := by rw [if_neg (show ¬ (false = true) by decide)] at H; exact H
                              clear H
                              have H := H1
                              clear H1
                              have HC48 := Aside0.mk H
                              clear H
                              go_upto_if 124 with (fail)
                              go_cut [124] (fun v124 wc => ∃ (kq : Nat) (x124_47 : Bool), v124 = .bool x124_47 ∧ Aside0 (spec_Transition.j4 kq a0 a1 t111 t112 t113 t114 x124_47 = some (r1, r2)) ∧ Aside0 (kq ≤ kj35) ∧ Drawn0 w wc)
                              case first =>
                                have H := HC48.out
                                clear HC48
                                by_cases c49 : a0 = 4
                                · rw [if_pos c49] at H
                                  have c49b0 : (a0 == 4) = true := beq_iff_eq.mpr c49
                                  have c49b1 : (a0 != 4) = false := bne_eq_false_iff_eq.mpr c49
                                  clear c49
                                  (first | rw [c49b0] | (simp only [i64_w, i32_w]; rw [c49b0]) | skip)
                                  have H' := Aside0.mk H
                                  clear H
                                  go_wp2
                                  go_meet
                                  case rel => exact ⟨_, ((a0 == 4)), (by first | rfl | (simp; done) | (simp [*]; done)), H', ⟨by have := HJ2.out; have := HJ8.out; have := HJ22.out; have := HJ35.out; first | omega | exact Nat.le_refl _⟩, by repeat (first | exact Drawn0.refl _ | apply Drawn0.step)⟩
                                · rw [if_neg c49] at H
                                  have c49b0 : (a0 == 4) = false := beq_eq_false_iff_ne.mpr c49
                                  have c49b1 : (a0 != 4) = true := bne_iff_ne.mpr c49
                                  (first | rw [c49b0] | (simp only [i64_w, i32_w]; rw [c49b0]) | skip)
                                  by_cases c50 : a0 = 5
                                  · rw [if_pos c50] at H
                                    have c50b0 : (a0 == 5) = true := beq_iff_eq.mpr c50
                                    have c50b1 : (a0 != 5) = false := bne_eq_false_iff_eq.mpr c50
                                    clear c50
                                    have H' := Aside0.mk H
                                    clear H
                                    go_wp2
                                    go_meet
                                    case rel => exact ⟨_, ((a0 == 5)), (by first | rfl | (simp; done) | (simp [*]; done)), H', ⟨by have := HJ2.out; have := HJ8.out; have := HJ22.out; have := HJ35.out; first | omega | exact Nat.le_refl _⟩, by repeat (first | exact Drawn0.refl _ | apply Drawn0.step)⟩
                                  · rw [if_neg c50] at H
                                    have c50b0 : (a0 == 5) = false := beq_eq_false_iff_ne.mpr c50
                                    have c50b1 : (a0 != 5) = true := bne_iff_ne.mpr c50
                                    have H' := Aside0.mk H
                                    clear H
                                    go_wp2
                                    go_meet
                                    case rel => exact ⟨_, ((a0 == 6)), (by first | rfl | (simp; done) | (simp [*]; done)), H', ⟨by have := HJ2.out; have := HJ8.out; have := HJ22.out; have := HJ35.out; first | omega | exact Nat.le_refl _⟩, by repeat (first | exact Drawn0.refl _ | apply Drawn0.step)⟩
                              case rest =>
                                clear HC48
                                try clear c1
                                try clear c2
                                try clear p2
                                try clear c3
                                try clear c4
                                try clear c4b0
                                try clear c5
                                try clear c5b0
                                try clear c5b1
                                try clear c6
                                try clear c6b0
                                try clear c6b1
                                try clear p6
                                try clear c7
                                try clear c8
                                try clear c10
                                try clear c10b0
                                try clear c10b1
                                try clear c11
                                try clear c11b0
                                try clear c11b1
                                try clear c13
                                try clear c15
                                try clear c20
                                try clear c20b0
                                try clear c20b1
                                try clear c21
                                try clear c21b0
                                try clear c22
                                try clear c22b0
                                try clear c22b1
                                try clear c24
                                try clear c24b0
                                try clear c24b1
                                try clear c25
                                try clear c26
                                try clear c26b0
                                try clear c27
                                try clear c28
                                try clear c28b0
                                try clear c28b1
                                try clear c29
                                try clear c29b0
                                try clear c29b1
                                try clear c30
                                try clear c30b0
                                try clear c30b1
                                try clear c31
                                try clear c31b0
                                try clear c31b1
                                try clear c32
                                try clear c32b0
                                try clear c32b1
                                try clear c33
                                try clear c33b0
                                try clear c33b1
                                try clear c34
                                try clear c34b0
                                try clear c34b1
                                try clear c35
                                try clear c35b0
                                try clear c35b1
                                try clear c37
                                try clear c37b0
                                try clear c37b1
                                try clear c38
                                try clear c38b0
                                try clear c38b1
                                try clear c39
                                try clear c40
                                try clear c40b0
                                try clear c41
                                try clear c42
                                try clear c43
                                try clear c43b0
                                try clear c43b1
                                try clear c44
                                try clear c44b0
                                try clear c44b1
                                try clear c45
                                try clear c46
                                try clear c47
                                try clear c47b0
                                try clear c47b1
                                try clear c49
                                try clear c49b0
                                try clear c49b1
                                try clear c50
                                try clear c50b0
                                try clear c50b1
                                try clear p2
                                try clear p6
                                obtain ⟨kq, x124_47, rfl, HA, HJ47, ⟨mc47, rfl⟩⟩ := hcut
                                cases kq with
                                | zero => exact absurd HA.out (by simp [spec_Transition.j4])
                                | succ kj47 =>
                                  have H := HA.out
                                  clear HA
                                  simp only [spec_Transition.j4] at H
                                  by_cases c51 : x124_47 = true
                                  · subst c51
                                    have H1 : (if t111 = true then (some (5, 2)) else (if t112 = true then (spec_Transition.j5 kj47 a0 t113 t114 t112) else (if a0 = 5 then ((spec_within.f a1 48 63).bind fun t115 => (spec_Transition.j5 kj47 a0 t113 t114 t115)) else (spec_Transition.j5 kj47 a0 t113 t114 false)))) = some (r1, r2) := by rw [if_pos rfl] at H; exact H
                                    clear H
                                    have H := H1
                                    clear H1
                                    by_cases c52 : t111 = true
                                    · subst c52
                                      have H1 : (some (5, 2)) = some (r1, r2) := by rw [if_pos rfl] at H; exact H
                                      clear H
                                      have H := H1
                                      clear H1
                                      simp only [Option.some.injEq, Prod.mk.injEq] at H
                                      obtain ⟨rfl, rfl⟩ := H
                                      go_wp2
                                      go_ret2
                                      exact ⟨by first | rfl | (simp; done) | (simp [*]; done), by repeat (first | exact Drawn0.refl _ | apply Drawn0.step)⟩
                                    · replace c52 := Bool.eq_false_iff.mpr c52
                                      subst c52
                                      have H1 : (if t112 = true then (spec_Transition.j5 kj47 a0 t113 t114 t112) else (if a0 = 5 then ((spec_within.f a1 48 63).bind fun t115 => (spec_Transition.j5 kj47 a0 t113 t114 t115)) else (spec_Transition.j5 kj47 a0 t113 t114 false))) = some (r1, r2) := by rw [if_neg (show ¬ (false = true) by decide)] at H; exact H
                                      clear H
                                      have H := H1
                                      clear H1
                                      have HC53 := Aside0.mk H
                                      clear H
                                      go_upto_if 130 with (fail)
                                      go_cut [130] (fun v130 wc => ∃ (kq : Nat) (x130_52 : Bool), v130 = .bool x130_52 ∧ Aside0 (spec_Transition.j5 kq a0 t113 t114 x130_52 = some (r1, r2)) ∧ Aside0 (kq ≤ kj47) ∧ Drawn0 w wc)
                                      case first =>
                                        have H := HC53.out
                                        clear HC53
                                        by_cases c54 : t112 = true
                                        · subst c54
                                          have H1 : (spec_Transition.j5 kj47 a0 t113 t114 true) = some (r1, r2) := by rw [if_pos rfl] at H; exact H
                                          clear H
                                          have H := H1
                                          clear H1
                                          have H' := Aside0.mk H
                                          clear H
                                          go_wp2
                                          go_meet
                                          case rel => exact ⟨_, (true), (by first | rfl | (simp; done) | (simp [*]; done)), H', ⟨by have := HJ2.out; have := HJ8.out; have := HJ22.out; have := HJ35.out; have := HJ47.out; first | omega | exact Nat.le_refl _⟩, by repeat (first | exact Drawn0.refl _ | apply Drawn0.step)⟩
                                        · replace c54 := Bool.eq_false_iff.mpr c54
                                          subst c54
                                          have H1 : (if a0 = 5 then ((spec_within.f a1 48 63).bind fun t115 => (spec_Transition.j5 kj47 a0 t113 t114 t115)) else (spec_Transition.j5 kj47 a0 t113 t114 false)) = some (r1, r2) := by rw [if_neg (show ¬ (false = true) by decide)] at H; exact H
                                          clear H
                                          have H := H1
                                          clear H1
                                          by_cases c55 : a0 = 5
                                          · rw [if_pos c55] at H
                                            have c55b0 : (a0 == 5) = true := beq_iff_eq.mpr c55
                                            have c55b1 : (a0 != 5) = false := bne_eq_false_iff_eq.mpr c55
                                            clear c55
                                            (first | rw [c55b0] | (simp only [i64_w, i32_w]; rw [c55b0]) | skip)
                                            replace H := Option.bind_eq_some_iff.mp H
                                            obtain ⟨t115, A560, H⟩ := H
                                            replace H : (spec_Transition.j5 kj47 a0 t113 t114 t115) = some (r1, r2) := H
                                            have A56 := Aside0.mk A560
                                            clear A560
                                            have H' := Aside0.mk H
                                            clear H
                                            go_wp2_with (first | (go_at_call 21; (with_reducible refine (spec_within.calls a1 48 63 t115 _ A56.out).mono ?_); rintro e w' ⟨rfl, ⟨nd, rfl⟩⟩))
                                            go_meet
                                            case rel => exact ⟨_, (t115), (by first | rfl | (simp; done) | (simp [*]; done)), H', ⟨by have := HJ2.out; have := HJ8.out; have := HJ22.out; have := HJ35.out; have := HJ47.out; first | omega | exact Nat.le_refl _⟩, by repeat (first | exact Drawn0.refl _ | apply Drawn0.step)⟩
                                          · rw [if_neg c55] at H
                                            have c55b0 : (a0 == 5) = false := beq_eq_false_iff_ne.mpr c55
                                            have c55b1 : (a0 != 5) = true := bne_iff_ne.mpr c55
                                            (first | rw [c55b0] | (simp only [i64_w, i32_w]; rw [c55b0]) | skip)
                                            have H' := Aside0.mk H
                                            clear H
                                            go_wp2
                                            go_meet
                                            case rel => exact ⟨_, (false), (by first | rfl | (simp; done) | (simp [*]; done)), H', ⟨by have := HJ2.out; have := HJ8.out; have := HJ22.out; have := HJ35.out; have := HJ47.out; first | omega | exact Nat.le_refl _⟩, by repeat (first | exact Drawn0.refl _ | apply Drawn0.step)⟩
                                      case rest =>
                                        clear HC53
                                        try clear c1
                                        try clear c2
                                        try clear p2
                                        try clear c3
                                        try clear c4
                                        try clear c4b0
                                        try clear c5
                                        try clear c5b0
                                        try clear c5b1
                                        try clear c6
                                        try clear c6b0
                                        try clear c6b1
                                        try clear p6
                                        try clear c7
                                        try clear c8
                                        try clear c10
                                        try clear c10b0
                                        try clear c10b1
                                        try clear c11
                                        try clear c11b0
                                        try clear c11b1
                                        try clear c13
                                        try clear c15
                                        try clear c20
                                        try clear c20b0
                                        try clear c20b1
                                        try clear c21
                                        try clear c21b0
                                        try clear c22
                                        try clear c22b0
                                        try clear c22b1
                                        try clear c24
                                        try clear c24b0
                                        try clear c24b1
                                        try clear c25
                                        try clear c26
                                        try clear c26b0
                                        try clear c27
                                        try clear c28
                                        try clear c28b0
                                        try clear c28b1
                                        try clear c29
                                        try clear c29b0
                                        try clear c29b1
                                        try clear c30
                                        try clear c30b0
                                        try clear c30b1
                                        try clear c31
                                        try clear c31b0
                                        try clear c31b1
                                        try clear c32
                                        try clear c32b0
                                        try clear c32b1
                                        try clear c33
                                        try clear c33b0
                                        try clear c33b1
                                        try clear c34
                                        try clear c34b0
                                        try clear c34b1
                                        try clear c35
                                        try clear c35b0
                                        try clear c35b1
                                        try clear c37
                                        try clear c37b0
                                        try clear c37b1
                                        try clear c38
                                        try clear c38b0
                                        try clear c38b1
                                        try clear c39
                                        try clear c40
                                        try clear c40b0
                                        try clear c41
                                        try clear c42
                                        try clear c43
                                        try clear c43b0
                                        try clear c43b1
                                        try clear c44
                                        try clear c44b0
                                        try clear c44b1
                                        try clear c45
                                        try clear c46
                                        try clear c47
                                        try clear c47b0
                                        try clear c47b1
                                        try clear c49
                                        try clear c49b0
                                        try clear c49b1
                                        try clear c50
                                        try clear c50b0
                                        try clear c50b1
                                        try clear c51
                                        try clear c52
                                        try clear c54
                                        try clear c55
                                        try clear c55b0
                                        try clear c55b1
                                        try clear p2
                                        try clear p6
                                        obtain ⟨kq, x130_52, rfl, HA, HJ52, ⟨mc52, rfl⟩⟩ := hcut
                                        cases kq with
                                        | zero => exact absurd HA.out (by simp [spec_Transition.j5])
                                        | succ kj52 =>
                                          have H := HA.out
                                          clear HA
                                          simp only [spec_Transition.j5] at H
                                          by_cases c57 : x130_52 = true
                                          · subst c57
                                            have H1 : (some (7, 6)) = some (r1, r2) := by rw [if_pos rfl] at H; exact H
                                            clear H
                                            have H := H1
                                            clear H1
                                            simp only [Option.some.injEq, Prod.mk.injEq] at H
                                            obtain ⟨rfl, rfl⟩ := H
                                            go_wp2
                                            go_ret2
                                            exact ⟨by first | rfl | (simp; done) | (simp [*]; done), by repeat (first | exact Drawn0.refl _ | apply Drawn0.step)⟩
                                          · replace c57 := Bool.eq_false_iff.mpr c57
                                            subst c57
                                            have H1 : (if t113 = true then (some (6, 8)) else (if t114 = true then (if a0 = 4 then (some (6, 3)) else (some (a0, 0))) else (some (a0, 0)))) = some (r1, r2) := by rw [if_neg (show ¬ (false = true) by decide)] at H; exact H
                                            clear H
                                            have H := H1
                                            clear H1
                                            by_cases c58 : t113 = true
                                            · subst c58
                                              have H1 : (some (6, 8)) = some (r1, r2) := by rw [if_pos rfl] at H; exact H
                                              clear H
                                              have H := H1
                                              clear H1
                                              simp only [Option.some.injEq, Prod.mk.injEq] at H
                                              obtain ⟨rfl, rfl⟩ := H
                                              go_wp2
                                              go_ret2
                                              exact ⟨by first | rfl | (simp; done) | (simp [*]; done), by repeat (first | exact Drawn0.refl _ | apply Drawn0.step)⟩
                                            · replace c58 := Bool.eq_false_iff.mpr c58
                                              subst c58
                                              have H1 : (if t114 = true then (if a0 = 4 then (some (6, 3)) else (some (a0, 0))) else (some (a0, 0))) = some (r1, r2) := by rw [if_neg (show ¬ (false = true) by decide)] at H; exact H
                                              clear H
                                              have H := H1
                                              clear H1
                                              by_cases c59 : t114 = true
                                              · subst c59
                                                have H1 : (if a0 = 4 then (some (6, 3)) else (some (a0, 0))) = some (r1, r2) := by rw [if_pos rfl] at H; exact H
                                                clear H
                                                have H := H1
                                                clear H1
                                                by_cases c60 : a0 = 4
                                                · rw [if_pos c60] at H
                                                  have c60b0 : (a0 == 4) = true := beq_iff_eq.mpr c60
                                                  have c60b1 : (a0 != 4) = false := bne_eq_false_iff_eq.mpr c60
                                                  clear c60
                                                  simp only [Option.some.injEq, Prod.mk.injEq] at H
                                                  obtain ⟨rfl, rfl⟩ := H
                                                  go_wp2
                                                  go_ret2
                                                  exact ⟨by first | rfl | (simp; done) | (simp [*]; done), by repeat (first | exact Drawn0.refl _ | apply Drawn0.step)⟩
                                                · rw [if_neg c60] at H
                                                  have c60b0 : (a0 == 4) = false := beq_eq_false_iff_ne.mpr c60
                                                  have c60b1 : (a0 != 4) = true := bne_iff_ne.mpr c60
                                                  simp only [Option.some.injEq, Prod.mk.injEq] at H
                                                  obtain ⟨rfl, rfl⟩ := H
                                                  go_wp2
                                                  go_ret2
                                                  exact ⟨by first | rfl | (simp; done) | (simp [*]; done), by repeat (first | exact Drawn0.refl _ | apply Drawn0.step)⟩
                                              · replace c59 := Bool.eq_false_iff.mpr c59
                                                subst c59
                                                have H1 : (some (a0, 0)) = some (r1, r2) := by rw [if_neg (show ¬ (false = true) by decide)] at H; exact H
                                                clear H
                                                have H := H1
                                                clear H1
                                                simp only [Option.some.injEq, Prod.mk.injEq] at H
                                                obtain ⟨rfl, rfl⟩ := H
                                                go_wp2
                                                go_ret2
                                                exact ⟨by first | rfl | (simp; done) | (simp [*]; done), by repeat (first | exact Drawn0.refl _ | apply Drawn0.step)⟩
                                  · replace c51 := Bool.eq_false_iff.mpr c51
                                    subst c51
                                    have H1 : (some (0, 0)) = some (r1, r2) := by rw [if_neg (show ¬ (false = true) by decide)] at H; exact H
                                    clear H
                                    have H := H1
                                    clear H1
                                    simp only [Option.some.injEq, Prod.mk.injEq] at H
                                    obtain ⟨rfl, rfl⟩ := H
                                    go_wp2
                                    go_ret2
                                    exact ⟨by first | rfl | (simp; done) | (simp [*]; done), by repeat (first | exact Drawn0.refl _ | apply Drawn0.step)⟩
end Go.Proofs.YtmpmfdghdaofhaaDoor.PK
