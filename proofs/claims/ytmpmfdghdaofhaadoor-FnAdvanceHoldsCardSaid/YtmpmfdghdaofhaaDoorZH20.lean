/- Texts of this claim, joined; what isn't needed is left out (wip/slim.py). -/
import Derived.Test.YtmpmfdghdaofhaaDoorProg
import Derived.Below
import Derived.Deep.Draws
import Derived.Deep.AppendLies
import Derived.Maps.AppendAt
import Derived.OwnWalk
import Derived.Laws.BytesArg
import Derived.Laws.MakeOwn
import Derived.Laws.OwnMore
import Derived.Deep.OwnRows
import Derived.Tactics
import Derived.Lib.ConvBytes
import Derived.Laws.Slices
import Derived.WalkKit
import Derived.KernelRfl
import Derived.RowKit3
import Derived.Deep.LoopGhost
import Derived.Deep.QuietTactic
import Derived.BigQuiet
import Derived.WideLaws
import Derived.Deep.DeepCutAuto
import Derived.Deep.CutBlock
import Derived.Deep.RegionHeld3
import Derived.Laws.Rows
import Derived.Lib.AppendStr
import Derived.ArgAppend
import Derived.Laws.IdiomCopy
import Derived.OrdersHeld
import Derived.Laws.BitsLemmas
import Derived.RowKit
import Derived.Test.YtmpmfdghdaofhaaDoorZH0
import Derived.Test.YtmpmfdghdaofhaaDoorZH4
import Derived.Laws.Runes
import Derived.Test.YtmpmfdghdaofhaaDoorZH1
import Derived.Test.YtmpmfdghdaofhaaDoorZH2
import Derived.Test.YtmpmfdghdaofhaaDoorZH5
import Derived.Test.YtmpmfdghdaofhaaDoorZH3
import Derived.Laws.StructEq
import Derived.Test.YtmpmfdghdaofhaaDoorZH6
import Derived.Test.YtmpmfdghdaofhaaDoorZH7
namespace Go.Proofs.YtmpmfdghdaofhaaDoor.PY
open Go.RowKit Go.Proofs.YtmpmfdghdaofhaaDoorW.PrintWords Go.Proofs.YtmpmfdghdaofhaaDoorW.PrintLast Go.Proofs.YtmpmfdghdaofhaaDoorW.PrintMore
attribute [local go_sem] max2_int min2_int max_two min_two max_three min_three max_four min_four
attribute [local go_sem] Ext.wrap64_mod256 Ext.wrap64_mod32 Ext.i64_mod256 Ext.i64_mod32 Ext.i64_u8 Ext.w64_u8 Ext.i64_u32 Ext.w64_u32
attribute [-simp] List.drop_one List.length_drop
set_option linter.unusedVariables false
set_option linter.unusedSimpArgs false
def errW : Option Int → Value
  | none => .nilIface
  | some c => .iface 0 (.int .i64 c)
theorem errW_none : errW none = .nilIface := rfl
theorem errW_some (c : Int) : errW (some c) = .iface 0 (.int .i64 c) := rfl
theorem info5 : (Tryd.prog.info? 5).map (fun i => (i.zero, i.size, i.bytes)) = some (some (.int .u8 0), 1, 1) := by kernel_rfl
end Go.Proofs.YtmpmfdghdaofhaaDoor.PY

namespace Go.Proofs.YtmpmfdghdaofhaaDoor.PY
open Go.RowKit Go.Proofs.YtmpmfdghdaofhaaDoorW.PrintWords Go.Proofs.YtmpmfdghdaofhaaDoorW.PrintLast Go.Proofs.YtmpmfdghdaofhaaDoorW.PrintMore
attribute [local go_sem] max2_int min2_int max_two min_two max_three min_three max_four min_four
attribute [local go_sem] Ext.wrap64_mod256 Ext.wrap64_mod32 Ext.i64_mod256 Ext.i64_mod32 Ext.i64_u8 Ext.w64_u8 Ext.i64_u32 Ext.w64_u32
attribute [-simp] List.drop_one List.length_drop
set_option linter.unusedVariables false
set_option linter.unusedSimpArgs false
def spec_within.f (a0 : Int) (a1 : Int) (a2 : Int) : Option (Bool) := if a1 ≤ a0 then (some (decide (a0 ≤ a2))) else (some false)
set_option maxHeartbeats 8000000 in
set_option maxRecDepth 100000 in
theorem spec_within.calls (a0 : Int) (a1 : Int) (a2 : Int) (r : Bool) (w : World) (h : spec_within.f a0 a1 a2 = some r) :
    Calls Tryd.prog 21 #[.int .u8 a0, .int .u8 a1, .int .u8 a2] w fun e w' => e = .returned (.bool r) ∧ Drawn0 w w' := by
  have H : (if a1 ≤ a0 then (some (decide (a0 ≤ a2))) else (some false)) = some r := h
  clear h
  by_cases c4 : a1 ≤ a0
  · rw [if_pos c4] at H
    have c4b0 : decide (a1 ≤ a0) = true := decide_eq_true c4
    clear c4
    obtain rfl := Option.some.inj H
    go_enter Tryd.func21, Tryd.ntmps21
    go_wp2
    go_ret
    exact ⟨by first | rfl | (simp; done) | (simp [*]; done), by repeat (first | exact Drawn0.refl _ | apply Drawn0.step)⟩
  · rw [if_neg c4] at H
    have c4b0 : decide (a1 ≤ a0) = false := decide_eq_false c4
    clear c4
    obtain rfl := Option.some.inj H
    go_enter Tryd.func21, Tryd.ntmps21
    go_wp2
    go_ret
    exact ⟨by first | rfl | (simp; done) | (simp [*]; done), by repeat (first | exact Drawn0.refl _ | apply Drawn0.step)⟩
end Go.Proofs.YtmpmfdghdaofhaaDoor.PY

namespace Go.Proofs.YtmpmfdghdaofhaaDoor.PY
open Go.RowKit Go.Proofs.YtmpmfdghdaofhaaDoorW.PrintWords Go.Proofs.YtmpmfdghdaofhaaDoorW.PrintLast Go.Proofs.YtmpmfdghdaofhaaDoorW.PrintMore
attribute [local go_sem] max2_int min2_int max_two min_two max_three min_three max_four min_four
attribute [local go_sem] Ext.wrap64_mod256 Ext.wrap64_mod32 Ext.i64_mod256 Ext.i64_mod32 Ext.i64_u8 Ext.w64_u8 Ext.i64_u32 Ext.w64_u32
attribute [-simp] List.drop_one List.length_drop
set_option linter.unusedVariables false
set_option linter.unusedSimpArgs false
mutual
def spec_CodePoint.j3 : Nat → List Int → Int → Int → Option (Int)
  | 0, _, _, _ => none
  | k + 1, x0, x3, x4 => if 1 ≤ (x0.length : Int) then (spec_CodePoint.l0 k x3 x4 (x0.drop 1) ((x0.drop 1).length : Int) 0) else (none)
def spec_CodePoint.l0 : Nat → Int → Int → List Int → Int → Int → Option (Int)
  | 0, _, _, _, _, _ => none
  | k + 1, x3, x4, x70, x71, x72 => if x72 < x71 then (if 0 ≤ x72 then (if x72 < (x70.length : Int) then (if (Go.bits .and .u8 (rd x70 x72) 192) = 128 then (spec_CodePoint.l0 k (Go.bits .or .i64 (wrap64 (x3 * 64)) (wrap64 (Go.bits .and .u8 (rd x70 x72) 63))) x4 x70 x71 (wrap64 (x72 + 1))) else (some 65533)) else (none)) else (none)) else (if x3 < x4 then (some 65533) else (if x3 > 1114111 then (some 65533) else (if x3 ≥ 55296 then (if x3 ≤ 57343 then (some 65533) else (some x3)) else (some x3))))
def spec_CodePoint.j0 : Nat → List Int → Bool → Option (Int)
  | 0, _, _ => none
  | k + 1, x0, x10 => if x10 = true then (if 0 < (x0.length : Int) then (some (wrap64 (rd x0 0))) else (none)) else (if (x0.length : Int) = 2 then (if 0 < (x0.length : Int) then ((spec_within.f (rd x0 0) 192 223).bind fun t104 => (spec_CodePoint.j1 k x0 t104)) else (none)) else (spec_CodePoint.j1 k x0 false))
def spec_CodePoint.j1 : Nat → List Int → Bool → Option (Int)
  | 0, _, _ => none
  | k + 1, x0, x24 => if x24 = true then (if 0 < (x0.length : Int) then (spec_CodePoint.j3 k x0 (wrap64 (Go.bits .and .u8 (rd x0 0) 31)) 128) else (none)) else (if (x0.length : Int) = 3 then (if 0 < (x0.length : Int) then ((spec_within.f (rd x0 0) 224 239).bind fun t107 => (spec_CodePoint.j2 k x0 t107)) else (none)) else (spec_CodePoint.j2 k x0 false))
def spec_CodePoint.j2 : Nat → List Int → Bool → Option (Int)
  | 0, _, _ => none
  | k + 1, x0, x39 => if x39 = true then (if 0 < (x0.length : Int) then (spec_CodePoint.j3 k x0 (wrap64 (Go.bits .and .u8 (rd x0 0) 15)) 2048) else (none)) else (if (x0.length : Int) = 4 then (if 0 < (x0.length : Int) then ((spec_within.f (rd x0 0) 240 247).bind fun t110 => (if t110 = true then (spec_CodePoint.j3 k x0 (wrap64 (Go.bits .and .u8 (rd x0 0) 7)) 65536) else (some 65533))) else (none)) else (some 65533))
end
def spec_CodePoint.f (k : Nat) (l0 : List Int) : Option (Int) := if (l0.length : Int) = 0 then (some 65533) else (if (l0.length : Int) = 1 then (if 0 < (l0.length : Int) then (spec_CodePoint.j0 k l0 (decide ((rd l0 0) < 128))) else (none)) else (spec_CodePoint.j0 k l0 false))
theorem spec_CodePoint.mono_l : ∀ k, (∀ y0 y1 y2, LeO (spec_CodePoint.j3 k y0 y1 y2) (spec_CodePoint.j3 (k + 1) y0 y1 y2)) ∧ (∀ y0 y1 y2 y3 y4, LeO (spec_CodePoint.l0 k y0 y1 y2 y3 y4) (spec_CodePoint.l0 (k + 1) y0 y1 y2 y3 y4)) ∧ (∀ y0 y1, LeO (spec_CodePoint.j0 k y0 y1) (spec_CodePoint.j0 (k + 1) y0 y1)) ∧ (∀ y0 y1, LeO (spec_CodePoint.j1 k y0 y1) (spec_CodePoint.j1 (k + 1) y0 y1)) ∧ (∀ y0 y1, LeO (spec_CodePoint.j2 k y0 y1) (spec_CodePoint.j2 (k + 1) y0 y1))
  | 0 => ⟨fun _ _ _ r h => by simp [spec_CodePoint.j3] at h, fun _ _ _ _ _ r h => by simp [spec_CodePoint.l0] at h, fun _ _ r h => by simp [spec_CodePoint.j0] at h, fun _ _ r h => by simp [spec_CodePoint.j1] at h, fun _ _ r h => by simp [spec_CodePoint.j2] at h⟩
  | k + 1 => by
    obtain ⟨ih0, ih1, ih2, ih3, ih4⟩ := spec_CodePoint.mono_l k
    refine ⟨?_, ?_, ?_, ?_, ?_⟩
    · intro y0 y1 y2
      unfold spec_CodePoint.j3
      repeat' first
      | (with_reducible exact ih0 _ _ _)
      | (with_reducible exact ih1 _ _ _ _ _)
      | (with_reducible exact ih2 _ _)
      | (with_reducible exact ih3 _ _)
      | (with_reducible exact ih4 _ _)
      | (with_reducible exact LeO.refl _)
      | (with_reducible exact LeO.none _)
      | (with_reducible refine LeO.ite ?_ ?_)
      | (with_reducible refine LeO.bind ?_ (fun _ => ?_))
      | exact ih0 _ _ _
      | exact ih1 _ _ _ _ _
      | exact ih2 _ _
      | exact ih3 _ _
      | exact ih4 _ _
      | exact LeO.none _
      | refine LeO.ite ?_ ?_
      | refine LeO.bind ?_ (fun _ => ?_)
    · intro y0 y1 y2 y3 y4
      unfold spec_CodePoint.l0
      repeat' first
      | (with_reducible exact ih0 _ _ _)
      | (with_reducible exact ih1 _ _ _ _ _)
      | (with_reducible exact ih2 _ _)
      | (with_reducible exact ih3 _ _)
      | (with_reducible exact ih4 _ _)
      | (with_reducible exact LeO.refl _)
      | (with_reducible exact LeO.none _)
      | (with_reducible refine LeO.ite ?_ ?_)
      | (with_reducible refine LeO.bind ?_ (fun _ => ?_))
      | exact ih0 _ _ _
      | exact ih1 _ _ _ _ _
      | exact ih2 _ _
      | exact ih3 _ _
      | exact ih4 _ _
      | exact LeO.none _
      | refine LeO.ite ?_ ?_
      | refine LeO.bind ?_ (fun _ => ?_)
    · intro y0 y1
      unfold spec_CodePoint.j0
      repeat' first
      | (with_reducible exact ih0 _ _ _)
      | (with_reducible exact ih1 _ _ _ _ _)
      | (with_reducible exact ih2 _ _)
      | (with_reducible exact ih3 _ _)
      | (with_reducible exact ih4 _ _)
      | (with_reducible exact LeO.refl _)
      | (with_reducible exact LeO.none _)
      | (with_reducible refine LeO.ite ?_ ?_)
      | (with_reducible refine LeO.bind ?_ (fun _ => ?_))
      | exact ih0 _ _ _
      | exact ih1 _ _ _ _ _
      | exact ih2 _ _
      | exact ih3 _ _
      | exact ih4 _ _
      | exact LeO.none _
      | refine LeO.ite ?_ ?_
      | refine LeO.bind ?_ (fun _ => ?_)
    · intro y0 y1
      unfold spec_CodePoint.j1
      repeat' first
      | (with_reducible exact ih0 _ _ _)
      | (with_reducible exact ih1 _ _ _ _ _)
      | (with_reducible exact ih2 _ _)
      | (with_reducible exact ih3 _ _)
      | (with_reducible exact ih4 _ _)
      | (with_reducible exact LeO.refl _)
      | (with_reducible exact LeO.none _)
      | (with_reducible refine LeO.ite ?_ ?_)
      | (with_reducible refine LeO.bind ?_ (fun _ => ?_))
      | exact ih0 _ _ _
      | exact ih1 _ _ _ _ _
      | exact ih2 _ _
      | exact ih3 _ _
      | exact ih4 _ _
      | exact LeO.none _
      | refine LeO.ite ?_ ?_
      | refine LeO.bind ?_ (fun _ => ?_)
    · intro y0 y1
      unfold spec_CodePoint.j2
      repeat' first
      | (with_reducible exact ih0 _ _ _)
      | (with_reducible exact ih1 _ _ _ _ _)
      | (with_reducible exact ih2 _ _)
      | (with_reducible exact ih3 _ _)
      | (with_reducible exact ih4 _ _)
      | (with_reducible exact LeO.refl _)
      | (with_reducible exact LeO.none _)
      | (with_reducible refine LeO.ite ?_ ?_)
      | (with_reducible refine LeO.bind ?_ (fun _ => ?_))
      | exact ih0 _ _ _
      | exact ih1 _ _ _ _ _
      | exact ih2 _ _
      | exact ih3 _ _
      | exact ih4 _ _
      | exact LeO.none _
      | refine LeO.ite ?_ ?_
      | refine LeO.bind ?_ (fun _ => ?_)
theorem spec_CodePoint.mono : ∀ a0 k, LeO (spec_CodePoint.f k a0) (spec_CodePoint.f (k + 1) a0) := by
  intro a0 k
  obtain ⟨ih0, ih1, ih2, ih3, ih4⟩ := spec_CodePoint.mono_l k
  unfold spec_CodePoint.f
  repeat' first
      | (with_reducible exact ih0 _ _ _)
      | (with_reducible exact ih1 _ _ _ _ _)
      | (with_reducible exact ih2 _ _)
      | (with_reducible exact ih3 _ _)
      | (with_reducible exact ih4 _ _)
      | (with_reducible exact LeO.refl _)
      | (with_reducible exact LeO.none _)
      | (with_reducible refine LeO.ite ?_ ?_)
      | (with_reducible refine LeO.bind ?_ (fun _ => ?_))
      | exact ih0 _ _ _
      | exact ih1 _ _ _ _ _
      | exact ih2 _ _
      | exact ih3 _ _
      | exact ih4 _ _
      | exact LeO.none _
      | refine LeO.ite ?_ ?_
      | refine LeO.bind ?_ (fun _ => ?_)
set_option maxHeartbeats 8000000 in
set_option maxRecDepth 100000 in
theorem spec_CodePoint.calls (k : Nat) (A0 : Option Addr) (c0 : Nat) (l0 : List Int) (r : Int) (w : World) (hr0 : Kd.C (Kd.int .u8) w A0 l0.length l0) (hc0 : l0.length ≤ c0) (h : spec_CodePoint.f k l0 = some r) :
    Calls Tryd.prog 38 #[.slice A0 l0.length c0] w fun e w' => e = .returned (.int .i64 r) ∧ Drawn0 w w' := by
  have HR0 := Aside0.mk hr0
  have HC0 := Aside0.mk hc0
  clear hr0 hc0
  have H : (if (l0.length : Int) = 0 then (some 65533) else (if (l0.length : Int) = 1 then (if 0 < (l0.length : Int) then (spec_CodePoint.j0 k l0 (decide ((rd l0 0) < 128))) else (none)) else (spec_CodePoint.j0 k l0 false))) = some r := h
  clear h
  by_cases c2 : (l0.length : Int) = 0
  · rw [if_pos c2] at H
    have c2b0 : ((l0.length : Int) == 0) = true := beq_iff_eq.mpr c2
    have c2b1 : ((l0.length : Int) != 0) = false := bne_eq_false_iff_eq.mpr c2
    clear c2
    obtain rfl := Option.some.inj H
    go_enter Tryd.func38, Tryd.ntmps38
    go_wp2
    go_ret
    exact ⟨by first | rfl | (simp; done) | (simp [*]; done), by repeat (first | exact Drawn0.refl _ | apply Drawn0.step)⟩
  · rw [if_neg c2] at H
    have c2b0 : ((l0.length : Int) == 0) = false := beq_eq_false_iff_ne.mpr c2
    have c2b1 : ((l0.length : Int) != 0) = true := bne_iff_ne.mpr c2
    have c2b2 : ¬ (l0 = []) := fun h_ => c2 (by rw [h_]; rfl)
    have HC3 := Aside0.mk H
    clear H
    go_enter Tryd.func38, Tryd.ntmps38
    go_upto_block 0 with (fail)
    go_cut [3, 4] (fun v3 v4 wc => ∃ (kq : Nat) (x3_2 : Int) (x4_2 : Int), v3 = .int .i64 x3_2 ∧ v4 = .int .i64 x4_2 ∧ Aside0 (spec_CodePoint.j3 kq l0 x3_2 x4_2 = some r) ∧ Aside0 (kq ≤ k) ∧ Drawn0 w wc)
    case first =>
      have H := HC3.out
      clear HC3
      have HC4 := Aside0.mk H
      clear H
      go_upto_region 5 with (fail)
      go_cut [10] (fun v10 wc => ∃ (kq : Nat) (x10_3 : Bool), v10 = .bool x10_3 ∧ Aside0 (spec_CodePoint.j0 kq l0 x10_3 = some r) ∧ Aside0 (kq ≤ k) ∧ Drawn0 w wc)
      case first =>
        have H := HC4.out
        clear HC4
        by_cases c5 : (l0.length : Int) = 1
        · rw [if_pos c5] at H
          have c5b0 : ((l0.length : Int) == 1) = true := beq_iff_eq.mpr c5
          have c5b1 : ((l0.length : Int) != 1) = false := bne_eq_false_iff_eq.mpr c5
          clear c5
          (first | rw [c5b0] | (simp only [i64_w, i32_w]; rw [c5b0]) | skip)
          by_cases c6 : 0 < (l0.length : Int)
          · rw [if_pos c6] at H
            have c6b0 : decide (0 < (l0.length : Int)) = true := decide_eq_true c6
            have c6b1 : decide (0 < l0.length) = true := decide_eq_true (by omega)
            clear c6
            have H' := Aside0.mk H
            clear H
            have p101 : 0 ≤ (0 : Int) := (by omega)
            have q101 : 0 < (l0.length : Int) := of_decide_eq_true (by first | (with_reducible assumption) | assumption)
            obtain ⟨ad101, e101, hx101_0⟩ := Kd.at_int HR0.out 0 p101 q101
            cases e101
            have qi101 : (0 < l0.length) = True := eq_true (by omega)
            (try rw [show ((0 : Int)).toNat = 0 from rfl] at hx101_0)
            (try rw [Addr.add_zero'] at hx101_0)
            replace p101 := eq_true p101
            replace q101 := eq_true q101
            go_wp2
            go_meet
            case rel => exact ⟨_, (decide ((rd l0 0) < 128)), (by first | rfl | (simp; done) | (simp [*]; done)), H', ⟨by first | omega | exact Nat.le_refl _⟩, by repeat (first | exact Drawn0.refl _ | apply Drawn0.step)⟩
          · rw [if_neg c6] at H
            exact absurd H (by simp)
        · rw [if_neg c5] at H
          have c5b0 : ((l0.length : Int) == 1) = false := beq_eq_false_iff_ne.mpr c5
          have c5b1 : ((l0.length : Int) != 1) = true := bne_iff_ne.mpr c5
          (first | rw [c5b0] | (simp only [i64_w, i32_w]; rw [c5b0]) | skip)
          have H' := Aside0.mk H
          clear H
          go_wp2
          go_meet
          case rel => exact ⟨_, (false), (by first | rfl | (simp; done) | (simp [*]; done)), H', ⟨by first | omega | exact Nat.le_refl _⟩, by repeat (first | exact Drawn0.refl _ | apply Drawn0.step)⟩
      case rest =>
        clear HC4
        try clear p1
        try clear q1
        try clear hx1
        try clear qi1
        try clear c2
        try clear c2b0
        try clear c2b1
        try clear c2b2
        try clear p2
        try clear c3
        try clear c5
        try clear c5b0
        try clear c5b1
        try clear c6
        try clear c6b0
        try clear c6b1
        try clear hx101_0
        try clear p101
        try clear q101
        obtain ⟨kq, x10_3, rfl, HA, HJ3, ⟨mc3, rfl⟩⟩ := hcut
        cases kq with
        | zero => exact absurd HA.out (by simp [spec_CodePoint.j0])
        | succ kj3 =>
          have H := HA.out
          clear HA
          simp only [spec_CodePoint.j0] at H
          by_cases c7 : x10_3 = true
          · subst c7
            have H1 : (if 0 < (l0.length : Int) then (some (wrap64 (rd l0 0))) else (none)) = some r := by rw [if_pos rfl] at H; exact H
            clear H
            have H := H1
            clear H1
            by_cases c8 : 0 < (l0.length : Int)
            · rw [if_pos c8] at H
              have c8b0 : decide (0 < (l0.length : Int)) = true := decide_eq_true c8
              have c8b1 : decide (0 < l0.length) = true := decide_eq_true (by omega)
              clear c8
              obtain rfl := Option.some.inj H
              have p102 : 0 ≤ (0 : Int) := (by omega)
              have q102 : 0 < (l0.length : Int) := of_decide_eq_true (by first | (with_reducible assumption) | assumption)
              obtain ⟨ad102, e102, hx102_0⟩ := Kd.at_int HR0.out 0 p102 q102
              cases e102
              have qi102 : (0 < l0.length) = True := eq_true (by omega)
              (try rw [show ((0 : Int)).toNat = 0 from rfl] at hx102_0)
              (try rw [Addr.add_zero'] at hx102_0)
              replace p102 := eq_true p102
              replace q102 := eq_true q102
              go_wp2
              go_ret
              exact ⟨by first | rfl | (simp; done) | (simp [*]; done), by repeat (first | exact Drawn0.refl _ | apply Drawn0.step)⟩
            · rw [if_neg c8] at H
              exact absurd H (by simp)
          · replace c7 := Bool.eq_false_iff.mpr c7
            subst c7
            have H1 : (if (l0.length : Int) = 2 then (if 0 < (l0.length : Int) then ((spec_within.f (rd l0 0) 192 223).bind fun t104 => (spec_CodePoint.j1 kj3 l0 t104)) else (none)) else (spec_CodePoint.j1 kj3 l0 false)) = some r := by rw [if_neg (show ¬ (false = true) by decide)] at H; exact H
            clear H
            have H := H1
            clear H1
            have HC9 := Aside0.mk H
            clear H
            go_upto_region 7 with (fail)
            go_cut [24] (fun v24 wc => ∃ (kq : Nat) (x24_8 : Bool), v24 = .bool x24_8 ∧ Aside0 (spec_CodePoint.j1 kq l0 x24_8 = some r) ∧ Aside0 (kq ≤ kj3) ∧ Drawn0 w wc)
            case first =>
              have H := HC9.out
              clear HC9
              by_cases c10 : (l0.length : Int) = 2
              · rw [if_pos c10] at H
                have c10b0 : ((l0.length : Int) == 2) = true := beq_iff_eq.mpr c10
                have c10b1 : ((l0.length : Int) != 2) = false := bne_eq_false_iff_eq.mpr c10
                clear c10
                (first | rw [c10b0] | (simp only [i64_w, i32_w]; rw [c10b0]) | skip)
                by_cases c11 : 0 < (l0.length : Int)
                · rw [if_pos c11] at H
                  have c11b0 : decide (0 < (l0.length : Int)) = true := decide_eq_true c11
                  have c11b1 : decide (0 < l0.length) = true := decide_eq_true (by omega)
                  clear c11
                  replace H := Option.bind_eq_some_iff.mp H
                  obtain ⟨t104, A120, H⟩ := H
                  replace H : (spec_CodePoint.j1 kj3 l0 t104) = some r := H
                  have A12 := Aside0.mk A120
                  clear A120
                  have H' := Aside0.mk H
                  clear H
                  have p103 : 0 ≤ (0 : Int) := (by omega)
                  have q103 : 0 < (l0.length : Int) := of_decide_eq_true (by first | (with_reducible assumption) | assumption)
                  obtain ⟨ad103, e103, hx103_0⟩ := Kd.at_int HR0.out 0 p103 q103
                  cases e103
                  have qi103 : (0 < l0.length) = True := eq_true (by omega)
                  (try rw [show ((0 : Int)).toNat = 0 from rfl] at hx103_0)
                  (try rw [Addr.add_zero'] at hx103_0)
                  replace p103 := eq_true p103
                  replace q103 := eq_true q103
                  go_wp2_with (first | (go_at_call 21; (with_reducible refine (spec_within.calls (rd l0 0) 192 223 t104 _ A12.out).mono ?_); rintro e w' ⟨rfl, ⟨nd, rfl⟩⟩))
                  go_meet
                  case rel => exact ⟨_, (t104), (by first | rfl | (simp; done) | (simp [*]; done)), H', ⟨by have := HJ3.out; first | omega | exact Nat.le_refl _⟩, by repeat (first | exact Drawn0.refl _ | apply Drawn0.step)⟩
                · rw [if_neg c11] at H
                  exact absurd H (by simp)
              · rw [if_neg c10] at H
                have c10b0 : ((l0.length : Int) == 2) = false := beq_eq_false_iff_ne.mpr c10
                have c10b1 : ((l0.length : Int) != 2) = true := bne_iff_ne.mpr c10
                (first | rw [c10b0] | (simp only [i64_w, i32_w]; rw [c10b0]) | skip)
                have H' := Aside0.mk H
                clear H
                go_wp2
                go_meet
                case rel => exact ⟨_, (false), (by first | rfl | (simp; done) | (simp [*]; done)), H', ⟨by have := HJ3.out; first | omega | exact Nat.le_refl _⟩, by repeat (first | exact Drawn0.refl _ | apply Drawn0.step)⟩
            case rest =>
              clear HC9
              try clear c1
              try clear p1
              try clear q1
              try clear hx1
              try clear qi1
              try clear c2
              try clear c2b0
              try clear c2b1
              try clear c2b2
              try clear p2
              try clear c3
              try clear c5
              try clear c5b0
              try clear c5b1
              try clear c6
              try clear c6b0
              try clear c6b1
              try clear p6
              try clear c7
              try clear c8
              try clear c8b0
              try clear c8b1
              try clear c10
              try clear c10b0
              try clear c10b1
              try clear p10
              try clear q10
              try clear hx10
              try clear qi10
              try clear c11
              try clear c11b0
              try clear c11b1
              try clear hx101_0
              try clear hx102_0
              try clear hx103_0
              try clear p1
              try clear p101
              try clear p102
              try clear p103
              try clear p2
              try clear q1
              try clear q101
              try clear q102
              try clear q103
              obtain ⟨kq, x24_8, rfl, HA, HJ8, ⟨mc8, rfl⟩⟩ := hcut
              cases kq with
              | zero => exact absurd HA.out (by simp [spec_CodePoint.j1])
              | succ kj8 =>
                have H := HA.out
                clear HA
                simp only [spec_CodePoint.j1] at H
                by_cases c13 : x24_8 = true
                · subst c13
                  have H1 : (if 0 < (l0.length : Int) then (spec_CodePoint.j3 kj8 l0 (wrap64 (Go.bits .and .u8 (rd l0 0) 31)) 128) else (none)) = some r := by rw [if_pos rfl] at H; exact H
                  clear H
                  have H := H1
                  clear H1
                  by_cases c14 : 0 < (l0.length : Int)
                  · rw [if_pos c14] at H
                    have c14b0 : decide (0 < (l0.length : Int)) = true := decide_eq_true c14
                    have c14b1 : decide (0 < l0.length) = true := decide_eq_true (by omega)
                    clear c14
                    have H' := Aside0.mk H
                    clear H
                    have p105 : 0 ≤ (0 : Int) := (by omega)
                    have q105 : 0 < (l0.length : Int) := of_decide_eq_true (by first | (with_reducible assumption) | assumption)
                    obtain ⟨ad105, e105, hx105_0⟩ := Kd.at_int HR0.out 0 p105 q105
                    cases e105
                    have qi105 : (0 < l0.length) = True := eq_true (by omega)
                    (try rw [show ((0 : Int)).toNat = 0 from rfl] at hx105_0)
                    (try rw [Addr.add_zero'] at hx105_0)
                    replace p105 := eq_true p105
                    replace q105 := eq_true q105
                    go_wp2
                    go_meet
                    case rel => exact ⟨_, (wrap64 (Go.bits .and .u8 (rd l0 0) 31)), (128), (by first | rfl | (simp; done) | (simp [*]; done)), (by first | rfl | (simp; done) | (simp [*]; done)), H', ⟨by have := HJ3.out; have := HJ8.out; first | omega | exact Nat.le_refl _⟩, by repeat (first | exact Drawn0.refl _ | apply Drawn0.step)⟩
                  · rw [if_neg c14] at H
                    exact absurd H (by simp)
                · replace c13 := Bool.eq_false_iff.mpr c13
                  subst c13
                  have H1 : (if (l0.length : Int) = 3 then (if 0 < (l0.length : Int) then ((spec_within.f (rd l0 0) 224 239).bind fun t107 => (spec_CodePoint.j2 kj8 l0 t107)) else (none)) else (spec_CodePoint.j2 kj8 l0 false)) = some r := by rw [if_neg (show ¬ (false = true) by decide)] at H; exact H
                  clear H
                  have H := H1
                  clear H1
                  have HC15 := Aside0.mk H
                  clear H
                  go_upto_region 9 with (fail)
                  go_cut [39] (fun v39 wc => ∃ (kq : Nat) (x39_14 : Bool), v39 = .bool x39_14 ∧ Aside0 (spec_CodePoint.j2 kq l0 x39_14 = some r) ∧ Aside0 (kq ≤ kj8) ∧ Drawn0 w wc)
                  case first =>
                    have H := HC15.out
                    clear HC15
                    by_cases c16 : (l0.length : Int) = 3
                    · rw [if_pos c16] at H
                      have c16b0 : ((l0.length : Int) == 3) = true := beq_iff_eq.mpr c16
                      have c16b1 : ((l0.length : Int) != 3) = false := bne_eq_false_iff_eq.mpr c16
                      clear c16
                      (first | rw [c16b0] | (simp only [i64_w, i32_w]; rw [c16b0]) | skip)
                      by_cases c17 : 0 < (l0.length : Int)
                      · rw [if_pos c17] at H
                        have c17b0 : decide (0 < (l0.length : Int)) = true := decide_eq_true c17
                        have c17b1 : decide (0 < l0.length) = true := decide_eq_true (by omega)
                        clear c17
                        replace H := Option.bind_eq_some_iff.mp H
                        obtain ⟨t107, A180, H⟩ := H
                        replace H : (spec_CodePoint.j2 kj8 l0 t107) = some r := H
                        have A18 := Aside0.mk A180
                        clear A180
                        have H' := Aside0.mk H
                        clear H
                        have p106 : 0 ≤ (0 : Int) := (by omega)
                        have q106 : 0 < (l0.length : Int) := of_decide_eq_true (by first | (with_reducible assumption) | assumption)
                        obtain ⟨ad106, e106, hx106_0⟩ := Kd.at_int HR0.out 0 p106 q106
                        cases e106
                        have qi106 : (0 < l0.length) = True := eq_true (by omega)
                        (try rw [show ((0 : Int)).toNat = 0 from rfl] at hx106_0)
                        (try rw [Addr.add_zero'] at hx106_0)
                        replace p106 := eq_true p106
                        replace q106 := eq_true q106
                        go_wp2_with (first | (go_at_call 21; (with_reducible refine (spec_within.calls (rd l0 0) 224 239 t107 _ A18.out).mono ?_); rintro e w' ⟨rfl, ⟨nd, rfl⟩⟩))
                        go_meet
                        case rel => exact ⟨_, (t107), (by first | rfl | (simp; done) | (simp [*]; done)), H', ⟨by have := HJ3.out; have := HJ8.out; first | omega | exact Nat.le_refl _⟩, by repeat (first | exact Drawn0.refl _ | apply Drawn0.step)⟩
                      · rw [if_neg c17] at H
                        exact absurd H (by simp)
                    · rw [if_neg c16] at H
                      have c16b0 : ((l0.length : Int) == 3) = false := beq_eq_false_iff_ne.mpr c16
                      have c16b1 : ((l0.length : Int) != 3) = true := bne_iff_ne.mpr c16
                      (first | rw [c16b0] | (simp only [i64_w, i32_w]; rw [c16b0]) | skip)
                      have H' := Aside0.mk H
                      clear H
                      go_wp2
                      go_meet
                      case rel => exact ⟨_, (false), (by first | rfl | (simp; done) | (simp [*]; done)), H', ⟨by have := HJ3.out; have := HJ8.out; first | omega | exact Nat.le_refl _⟩, by repeat (first | exact Drawn0.refl _ | apply Drawn0.step)⟩
                  case rest =>
                    clear HC15
                    try clear c1
                    try clear p1
                    try clear q1
                    try clear hx1
                    try clear qi1
                    try clear c2
                    try clear c2b0
                    try clear c2b1
                    try clear c2b2
                    try clear p2
                    try clear c3
                    try clear c5
                    try clear c5b0
                    try clear c5b1
                    try clear c6
                    try clear c6b0
                    try clear c6b1
                    try clear p6
                    try clear c7
                    try clear c8
                    try clear c8b0
                    try clear c8b1
                    try clear c10
                    try clear c10b0
                    try clear c10b1
                    try clear p10
                    try clear q10
                    try clear hx10
                    try clear qi10
                    try clear c11
                    try clear c11b0
                    try clear c11b1
                    try clear c13
                    try clear c14
                    try clear c14b0
                    try clear c14b1
                    try clear c16
                    try clear c16b0
                    try clear c16b1
                    try clear c17
                    try clear c17b0
                    try clear c17b1
                    try clear hx101_0
                    try clear hx102_0
                    try clear hx103_0
                    try clear hx105_0
                    try clear hx106_0
                    try clear p1
                    try clear p10
                    try clear p101
                    try clear p102
                    try clear p103
                    try clear p105
                    try clear p106
                    try clear p2
                    try clear p6
                    try clear q1
                    try clear q10
                    try clear q101
                    try clear q102
                    try clear q103
                    try clear q105
                    try clear q106
                    obtain ⟨kq, x39_14, rfl, HA, HJ14, ⟨mc14, rfl⟩⟩ := hcut
                    cases kq with
                    | zero => exact absurd HA.out (by simp [spec_CodePoint.j2])
                    | succ kj14 =>
                      have H := HA.out
                      clear HA
                      simp only [spec_CodePoint.j2] at H
                      by_cases c19 : x39_14 = true
                      · subst c19
                        have H1 : (if 0 < (l0.length : Int) then (spec_CodePoint.j3 kj14 l0 (wrap64 (Go.bits .and .u8 (rd l0 0) 15)) 2048) else (none)) = some r := by rw [if_pos rfl] at H; exact H
                        clear H
                        have H := H1
                        clear H1
                        by_cases c20 : 0 < (l0.length : Int)
                        · rw [if_pos c20] at H
                          have c20b0 : decide (0 < (l0.length : Int)) = true := decide_eq_true c20
                          have c20b1 : decide (0 < l0.length) = true := decide_eq_true (by omega)
                          clear c20
                          have H' := Aside0.mk H
                          clear H
                          have p108 : 0 ≤ (0 : Int) := (by omega)
                          have q108 : 0 < (l0.length : Int) := of_decide_eq_true (by first | (with_reducible assumption) | assumption)
                          obtain ⟨ad108, e108, hx108_0⟩ := Kd.at_int HR0.out 0 p108 q108
                          cases e108
                          have qi108 : (0 < l0.length) = True := eq_true (by omega)
                          (try rw [show ((0 : Int)).toNat = 0 from rfl] at hx108_0)
                          (try rw [Addr.add_zero'] at hx108_0)
                          replace p108 := eq_true p108
                          replace q108 := eq_true q108
                          go_wp2
                          go_meet
                          case rel => exact ⟨_, (wrap64 (Go.bits .and .u8 (rd l0 0) 15)), (2048), (by first | rfl | (simp; done) | (simp [*]; done)), (by first | rfl | (simp; done) | (simp [*]; done)), H', ⟨by have := HJ3.out; have := HJ8.out; have := HJ14.out; first | omega | exact Nat.le_refl _⟩, by repeat (first | exact Drawn0.refl _ | apply Drawn0.step)⟩
                        · rw [if_neg c20] at H
                          exact absurd H (by simp)
                      · replace c19 := Bool.eq_false_iff.mpr c19
                        subst c19
                        have H1 : (if (l0.length : Int) = 4 then (if 0 < (l0.length : Int) then ((spec_within.f (rd l0 0) 240 247).bind fun t110 => (if t110 = true then (spec_CodePoint.j3 kj14 l0 (wrap64 (Go.bits .and .u8 (rd l0 0) 7)) 65536) else (some 65533))) else (none)) else (some 65533)) = some r := by rw [if_neg (show ¬ (false = true) by decide)] at H; exact H
                        clear H
                        have H := H1
                        clear H1
                        by_cases c21 : (l0.length : Int) = 4
                        · rw [if_pos c21] at H
                          have c21b0 : ((l0.length : Int) == 4) = true := beq_iff_eq.mpr c21
                          have c21b1 : ((l0.length : Int) != 4) = false := bne_eq_false_iff_eq.mpr c21
                          clear c21
                          by_cases c22 : 0 < (l0.length : Int)
                          · rw [if_pos c22] at H
                            have c22b0 : decide (0 < (l0.length : Int)) = true := decide_eq_true c22
                            have c22b1 : decide (0 < l0.length) = true := decide_eq_true (by omega)
                            clear c22
                            replace H := Option.bind_eq_some_iff.mp H
                            obtain ⟨t110, A230, H⟩ := H
                            replace H : (if t110 = true then (spec_CodePoint.j3 kj14 l0 (wrap64 (Go.bits .and .u8 (rd l0 0) 7)) 65536) else (some 65533)) = some r := H
                            have A23 := Aside0.mk A230
                            clear A230
                            by_cases c24 : t110 = true
                            · subst c24
                              have H1 : (spec_CodePoint.j3 kj14 l0 (wrap64 (Go.bits .and .u8 (rd l0 0) 7)) 65536) = some r := by rw [if_pos rfl] at H; exact H
                              clear H
                              have H := H1
                              clear H1
                              have H' := Aside0.mk H
                              clear H
                              have p109 : 0 ≤ (0 : Int) := (by omega)
                              have q109 : 0 < (l0.length : Int) := of_decide_eq_true (by first | (with_reducible assumption) | assumption)
                              obtain ⟨ad109, e109, hx109_0⟩ := Kd.at_int HR0.out 0 p109 q109
                              cases e109
                              have qi109 : (0 < l0.length) = True := eq_true (by omega)
                              (try rw [show ((0 : Int)).toNat = 0 from rfl] at hx109_0)
                              (try rw [Addr.add_zero'] at hx109_0)
                              replace p109 := eq_true p109
                              replace q109 := eq_true q109
                              go_wp2_with (first | (go_at_call 21; (with_reducible refine (spec_within.calls (rd l0 0) 240 247 true _ A23.out).mono ?_); rintro e w' ⟨rfl, ⟨nd, rfl⟩⟩; have p111 : 0 ≤ (0 : Int) := (by omega); have q111 : 0 < (l0.length : Int) := of_decide_eq_true (by first | (with_reducible assumption) | assumption); obtain ⟨ad111, e111, hx111_0⟩ := Kd.at_int HR0.out 0 p111 q111; obtain rfl : ad109 = ad111 := (by injection e111); have qi111 : (0 < l0.length) = True := eq_true (by omega); (try rw [show ((0 : Int)).toNat = 0 from rfl] at hx111_0); (try rw [Addr.add_zero'] at hx111_0); replace p111 := eq_true p111; replace q111 := eq_true q111))
                              go_meet
                              case rel => exact ⟨_, (wrap64 (Go.bits .and .u8 (rd l0 0) 7)), (65536), (by first | rfl | (simp; done) | (simp [*]; done)), (by first | rfl | (simp; done) | (simp [*]; done)), H', ⟨by have := HJ3.out; have := HJ8.out; have := HJ14.out; first | omega | exact Nat.le_refl _⟩, by repeat (first | exact Drawn0.refl _ | apply Drawn0.step)⟩
                            · replace c24 := Bool.eq_false_iff.mpr c24
                              subst c24
                              have H1 : (some 65533) = some r := by rw [if_neg (show ¬ (false = true) by decide)] at H; exact H
                              clear H
                              have H := H1
                              clear H1
                              obtain rfl := Option.some.inj H
                              have p109 : 0 ≤ (0 : Int) := (by omega)
                              have q109 : 0 < (l0.length : Int) := of_decide_eq_true (by first | (with_reducible assumption) | assumption)
                              obtain ⟨ad109, e109, hx109_0⟩ := Kd.at_int HR0.out 0 p109 q109
                              cases e109
                              have qi109 : (0 < l0.length) = True := eq_true (by omega)
                              (try rw [show ((0 : Int)).toNat = 0 from rfl] at hx109_0)
                              (try rw [Addr.add_zero'] at hx109_0)
                              replace p109 := eq_true p109
                              replace q109 := eq_true q109
                              go_wp2_with (first | (go_at_call 21; (with_reducible refine (spec_within.calls (rd l0 0) 240 247 false _ A23.out).mono ?_); rintro e w' ⟨rfl, ⟨nd, rfl⟩⟩))
                              go_ret
                              exact ⟨by first | rfl | (simp; done) | (simp [*]; done), by repeat (first | exact Drawn0.refl _ | apply Drawn0.step)⟩
                          · rw [if_neg c22] at H
                            exact absurd H (by simp)
                        · rw [if_neg c21] at H
                          have c21b0 : ((l0.length : Int) == 4) = false := beq_eq_false_iff_ne.mpr c21
                          have c21b1 : ((l0.length : Int) != 4) = true := bne_iff_ne.mpr c21
                          obtain rfl := Option.some.inj H
                          go_wp2
                          go_ret
                          exact ⟨by first | rfl | (simp; done) | (simp [*]; done), by repeat (first | exact Drawn0.refl _ | apply Drawn0.step)⟩
    case rest =>
      clear HC3
      try clear c1
      try clear p1
      try clear q1
      try clear hx1
      try clear qi1
      try clear c2
      try clear c2b0
      try clear c2b1
      try clear c2b2
      try clear p2
      try clear c3
      try clear c5
      try clear c5b0
      try clear c5b1
      try clear c6
      try clear c6b0
      try clear c6b1
      try clear p6
      try clear c7
      try clear c8
      try clear c8b0
      try clear c8b1
      try clear c10
      try clear c10b0
      try clear c10b1
      try clear p10
      try clear q10
      try clear hx10
      try clear qi10
      try clear c11
      try clear c11b0
      try clear c11b1
      try clear p11
      try clear q11
      try clear hx11
      try clear qi11
      try clear c13
      try clear c14
      try clear c14b0
      try clear c14b1
      try clear c16
      try clear c16b0
      try clear c16b1
      try clear c17
      try clear c17b0
      try clear c17b1
      try clear c19
      try clear c20
      try clear c20b0
      try clear c20b1
      try clear c21
      try clear c21b0
      try clear c21b1
      try clear c22
      try clear c22b0
      try clear c22b1
      try clear c24
      try clear hx101_0
      try clear hx102_0
      try clear hx103_0
      try clear hx105_0
      try clear hx106_0
      try clear hx108_0
      try clear hx109_0
      try clear hx111_0
      try clear p1
      try clear p10
      try clear p101
      try clear p102
      try clear p103
      try clear p105
      try clear p106
      try clear p108
      try clear p109
      try clear p111
      try clear p2
      try clear p6
      try clear q1
      try clear q10
      try clear q101
      try clear q102
      try clear q103
      try clear q105
      try clear q106
      try clear q108
      try clear q109
      try clear q111
      obtain ⟨kq, x3_2, x4_2, rfl, rfl, HA, HJ2, ⟨mc2, rfl⟩⟩ := hcut
      cases kq with
      | zero => exact absurd HA.out (by simp [spec_CodePoint.j3])
      | succ kj2 =>
        have H := HA.out
        clear HA
        simp only [spec_CodePoint.j3] at H
        by_cases c25 : 1 ≤ (l0.length : Int)
        · rw [if_pos c25] at H
          have c25b0 := eq_true c25
          have c25b1 : decide (1 ≤ (l0.length : Int)) = true := decide_eq_true c25
          clear c25
          have H' := Aside0.mk H
          clear H
          obtain ⟨i026, hi026, _, hsz26, _⟩ := info_parts info5
          obtain ⟨A26, hcut26, hA26, hC26⟩ := print_drop_of (P := Tryd.prog) (Value.int .u8) 0 27 5 .i64 Tryd.underlying27 hi026 hsz26 A0 c0 l0 1 (by omega) (of_decide_eq_true (by first | (with_reducible assumption) | assumption)) HC0.out
          have HR112 := Aside0.mk (Kd.C_of_reads (h1 := fun _ => rfl) (hA26 _ (Kd.reads_of_C HR0.out)))
          have HC112 := Aside0.mk hC26
          clear hA26 hC26 hi026 hsz26
          go_wp2
          go_loopg [3, 72] kj2 (fun kq v3 v72 w' => ∃ (x3_2 : Int) (x72_2 : Int), v3 = .int .i64 x3_2 ∧ v72 = .int .i64 x72_2 ∧ Aside0 (spec_CodePoint.l0 kq x3_2 x4_2 (l0.drop 1) ((l0.drop 1).length : Int) x72_2 = some r) ∧ Aside0 (kq ≤ kj2) ∧ Drawn0 w w')
          case atStart => exact ⟨(x3_2), (0), (by first | rfl | (simp; done) | (simp [*]; done)), (by first | rfl | (simp; done) | (simp [*]; done)), H', ⟨Nat.le_refl _⟩, by repeat (first | exact Drawn0.refl _ | apply Drawn0.step)⟩
          case round =>
            clear H'
            try clear c1
            try clear p1
            try clear q1
            try clear hx1
            try clear qi1
            try clear c2
            try clear c2b0
            try clear c2b1
            try clear c2b2
            try clear p2
            try clear c3
            try clear c5
            try clear c5b0
            try clear c5b1
            try clear c6
            try clear c6b0
            try clear c6b1
            try clear p6
            try clear c7
            try clear c8
            try clear c8b0
            try clear c8b1
            try clear c10
            try clear c10b0
            try clear c10b1
            try clear p10
            try clear q10
            try clear hx10
            try clear qi10
            try clear c11
            try clear c11b0
            try clear c11b1
            try clear p11
            try clear q11
            try clear hx11
            try clear qi11
            try clear c13
            try clear c14
            try clear c14b0
            try clear c14b1
            try clear c16
            try clear c16b0
            try clear c16b1
            try clear c17
            try clear c17b0
            try clear c17b1
            try clear c19
            try clear c20
            try clear c20b0
            try clear c20b1
            try clear c21
            try clear c21b0
            try clear c21b1
            try clear c22
            try clear c22b0
            try clear c22b1
            try clear c24
            try clear c25
            try clear c25b0
            try clear c25b1
            try clear hx101_0
            try clear hx102_0
            try clear hx103_0
            try clear hx105_0
            try clear hx106_0
            try clear hx108_0
            try clear hx109_0
            try clear hx111_0
            try clear p1
            try clear p10
            try clear p101
            try clear p102
            try clear p103
            try clear p105
            try clear p106
            try clear p108
            try clear p109
            try clear p11
            try clear p111
            try clear p2
            try clear p6
            try clear q1
            try clear q10
            try clear q101
            try clear q102
            try clear q103
            try clear q105
            try clear q106
            try clear q108
            try clear q109
            try clear q11
            try clear q111
            obtain ⟨x3_2, x72_2, rfl, rfl, HA, HK2, ⟨m2, rfl⟩⟩ := hrel
            cases gk with
            | zero => exact absurd HA.out (by simp [spec_CodePoint.l0])
            | succ k2 =>
              have H := HA.out
              clear HA
              simp only [spec_CodePoint.l0] at H
              by_cases c27 : x72_2 < ((l0.drop 1).length : Int)
              · rw [if_pos c27] at H
                have c27b0 : decide (x72_2 < ((l0.drop 1).length : Int)) = true := decide_eq_true c27
                clear c27
                by_cases c28 : 0 ≤ x72_2
                · rw [if_pos c28] at H
                  have c28b0 : decide (0 ≤ x72_2) = true := decide_eq_true c28
                  clear c28
                  by_cases c29 : x72_2 < ((l0.drop 1).length : Int)
                  · rw [if_pos c29] at H
                    have c29b0 : decide (x72_2 < ((l0.drop 1).length : Int)) = true := decide_eq_true c29
                    clear c29
                    by_cases c30 : (Go.bits .and .u8 (rd (l0.drop 1) x72_2) 192) = 128
                    · rw [if_pos c30] at H
                      have c30b0 : ((Go.bits .and .u8 (rd (l0.drop 1) x72_2) 192) == 128) = true := beq_iff_eq.mpr c30
                      have c30b1 : ((Go.bits .and .u8 (rd (l0.drop 1) x72_2) 192) != 128) = false := bne_eq_false_iff_eq.mpr c30
                      clear c30
                      have H' := Aside0.mk H
                      clear H
                      have p113 : 0 ≤ (x72_2 : Int) := of_decide_eq_true (by first | (with_reducible assumption) | assumption)
                      have q113 : x72_2 < ((l0.drop 1).length : Int) := of_decide_eq_true (by first | (with_reducible assumption) | assumption)
                      obtain ⟨ad113, e113, hx113_0⟩ := Kd.at_int HR112.out x72_2 p113 q113
                      cases e113
                      replace p113 := eq_true p113
                      replace q113 := eq_true q113
                      go_wp2
                      go_roundg k2
                      case measure => have := HJ2.out; have := HK2.out; omega
                      case rel => exact ⟨(Go.bits .or .i64 (wrap64 (x3_2 * 64)) (wrap64 (Go.bits .and .u8 (rd (l0.drop 1) x72_2) 63))), (wrap64 (x72_2 + 1)), (by first | rfl | (simp; done) | (simp [*]; done)), (by first | rfl | (simp; done) | (simp [*]; done)), H', ⟨by have := HJ2.out; have := HK2.out; omega⟩, by repeat (first | exact Drawn0.refl _ | apply Drawn0.step)⟩
                    · rw [if_neg c30] at H
                      have c30b0 : ((Go.bits .and .u8 (rd (l0.drop 1) x72_2) 192) == 128) = false := beq_eq_false_iff_ne.mpr c30
                      have c30b1 : ((Go.bits .and .u8 (rd (l0.drop 1) x72_2) 192) != 128) = true := bne_iff_ne.mpr c30
                      obtain rfl := Option.some.inj H
                      have p113 : 0 ≤ (x72_2 : Int) := of_decide_eq_true (by first | (with_reducible assumption) | assumption)
                      have q113 : x72_2 < ((l0.drop 1).length : Int) := of_decide_eq_true (by first | (with_reducible assumption) | assumption)
                      obtain ⟨ad113, e113, hx113_0⟩ := Kd.at_int HR112.out x72_2 p113 q113
                      cases e113
                      replace p113 := eq_true p113
                      replace q113 := eq_true q113
                      go_wp2
                      go_ret
                      exact ⟨by first | rfl | (simp; done) | (simp [*]; done), by repeat (first | exact Drawn0.refl _ | apply Drawn0.step)⟩
                  · rw [if_neg c29] at H
                    exact absurd H (by simp)
                · rw [if_neg c28] at H
                  exact absurd H (by simp)
              · rw [if_neg c27] at H
                have c27b0 : decide (x72_2 < ((l0.drop 1).length : Int)) = false := decide_eq_false c27
                clear c27
                by_cases c31 : x3_2 < x4_2
                · rw [if_pos c31] at H
                  have c31b0 : decide (x3_2 < x4_2) = true := decide_eq_true c31
                  clear c31
                  obtain rfl := Option.some.inj H
                  go_wp2
                  go_ret
                  exact ⟨by first | rfl | (simp; done) | (simp [*]; done), by repeat (first | exact Drawn0.refl _ | apply Drawn0.step)⟩
                · rw [if_neg c31] at H
                  have c31b0 : decide (x3_2 < x4_2) = false := decide_eq_false c31
                  clear c31
                  by_cases c32 : x3_2 > 1114111
                  · rw [if_pos c32] at H
                    have c32b0 : decide (1114111 < x3_2) = true := decide_eq_true c32
                    clear c32
                    obtain rfl := Option.some.inj H
                    go_wp2
                    go_ret
                    exact ⟨by first | rfl | (simp; done) | (simp [*]; done), by repeat (first | exact Drawn0.refl _ | apply Drawn0.step)⟩
                  · rw [if_neg c32] at H
                    have c32b0 : decide (1114111 < x3_2) = false := decide_eq_false c32
                    clear c32
                    by_cases c33 : x3_2 ≥ 55296
                    · rw [if_pos c33] at H
                      have c33b0 : decide (55296 ≤ x3_2) = true := decide_eq_true c33
                      clear c33
                      by_cases c34 : x3_2 ≤ 57343
                      · rw [if_pos c34] at H
                        have c34b0 : decide (x3_2 ≤ 57343) = true := decide_eq_true c34
                        clear c34
                        obtain rfl := Option.some.inj H
                        go_wp2
                        go_ret
                        exact ⟨by first | rfl | (simp; done) | (simp [*]; done), by repeat (first | exact Drawn0.refl _ | apply Drawn0.step)⟩
                      · rw [if_neg c34] at H
                        have c34b0 : decide (x3_2 ≤ 57343) = false := decide_eq_false c34
                        clear c34
                        obtain rfl := Option.some.inj H
                        go_wp2
                        go_ret
                        exact ⟨by first | rfl | (simp; done) | (simp [*]; done), by repeat (first | exact Drawn0.refl _ | apply Drawn0.step)⟩
                    · rw [if_neg c33] at H
                      have c33b0 : decide (55296 ≤ x3_2) = false := decide_eq_false c33
                      clear c33
                      obtain rfl := Option.some.inj H
                      go_wp2
                      go_ret
                      exact ⟨by first | rfl | (simp; done) | (simp [*]; done), by repeat (first | exact Drawn0.refl _ | apply Drawn0.step)⟩
        · rw [if_neg c25] at H
          exact absurd H (by simp)
end Go.Proofs.YtmpmfdghdaofhaaDoor.PY

namespace Go.Proofs.YtmpmfdghdaofhaaDoor.PY
open Go.RowKit Go.Proofs.YtmpmfdghdaofhaaDoorW.PrintWords Go.Proofs.YtmpmfdghdaofhaaDoorW.PrintLast Go.Proofs.YtmpmfdghdaofhaaDoorW.PrintMore
attribute [local go_sem] max2_int min2_int max_two min_two max_three min_three max_four min_four
attribute [local go_sem] Ext.wrap64_mod256 Ext.wrap64_mod32 Ext.i64_mod256 Ext.i64_mod32 Ext.i64_u8 Ext.w64_u8 Ext.i64_u32 Ext.w64_u32
attribute [-simp] List.drop_one List.length_drop
set_option linter.unusedVariables false
set_option linter.unusedSimpArgs false
def spec_pointBytes.f (a0 : Int) : Option (Int) := if a0 < 224 then (some 2) else (if a0 < 240 then (some 3) else (some 4))
set_option maxHeartbeats 8000000 in
set_option maxRecDepth 100000 in
theorem spec_pointBytes.calls (a0 : Int) (r : Int) (w : World) (h : spec_pointBytes.f a0 = some r) :
    Calls Tryd.prog 37 #[.int .u8 a0] w fun e w' => e = .returned (.int .i64 r) ∧ Drawn0 w w' := by
  have H : (if a0 < 224 then (some 2) else (if a0 < 240 then (some 3) else (some 4))) = some r := h
  clear h
  by_cases c2 : a0 < 224
  · rw [if_pos c2] at H
    have c2b0 : decide (a0 < 224) = true := decide_eq_true c2
    clear c2
    obtain rfl := Option.some.inj H
    go_enter Tryd.func37, Tryd.ntmps37
    go_wp2
    go_ret
    exact ⟨by first | rfl | (simp; done) | (simp [*]; done), by repeat (first | exact Drawn0.refl _ | apply Drawn0.step)⟩
  · rw [if_neg c2] at H
    have c2b0 : decide (a0 < 224) = false := decide_eq_false c2
    clear c2
    by_cases c3 : a0 < 240
    · rw [if_pos c3] at H
      have c3b0 : decide (a0 < 240) = true := decide_eq_true c3
      clear c3
      obtain rfl := Option.some.inj H
      go_enter Tryd.func37, Tryd.ntmps37
      go_wp2
      go_ret
      exact ⟨by first | rfl | (simp; done) | (simp [*]; done), by repeat (first | exact Drawn0.refl _ | apply Drawn0.step)⟩
    · rw [if_neg c3] at H
      have c3b0 : decide (a0 < 240) = false := decide_eq_false c3
      clear c3
      obtain rfl := Option.some.inj H
      go_enter Tryd.func37, Tryd.ntmps37
      go_wp2
      go_ret
      exact ⟨by first | rfl | (simp; done) | (simp [*]; done), by repeat (first | exact Drawn0.refl _ | apply Drawn0.step)⟩
end Go.Proofs.YtmpmfdghdaofhaaDoor.PY

namespace Go.Proofs.YtmpmfdghdaofhaaDoor.Sp
set_option linter.unusedVariables false
set_option linter.unusedSimpArgs false
open Go Go.RowKit Go.Proofs.YtmpmfdghdaofhaaDoor.PY Go.Proofs.YtmpmfdghdaofhaaDoorW.PrintWords Go.Proofs.YtmpmfdghdaofhaaDoorW.PrintLast Go.Proofs.YtmpmfdghdaofhaaDoorW.PrintMore
def plen (c : Int) : Int := if c < 224 then 2 else if c < 240 then 3 else 4
end Go.Proofs.YtmpmfdghdaofhaaDoor.Sp
