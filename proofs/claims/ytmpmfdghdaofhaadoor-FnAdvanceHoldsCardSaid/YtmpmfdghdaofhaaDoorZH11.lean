/- Texts of this claim, joined; what isn't needed is left out (wip/slim.py). -/
import Derived.Test.YtmpmfdghdaofhaaDoorProg
import Derived.Below
import Derived.Deep.Draws
import Derived.Deep.AppendLies
import Derived.Maps.AppendAt
import Derived.OwnWalk
import Derived.Laws.BytesArg
import Derived.Laws.MakeOwn
import Derived.Laws.OwnMore
import Derived.Deep.OwnRows
import Derived.Tactics
import Derived.Lib.ConvBytes
import Derived.Laws.Slices
import Derived.WalkKit
import Derived.KernelRfl
import Derived.RowKit3
import Derived.Deep.LoopGhost
import Derived.Deep.QuietTactic
import Derived.BigQuiet
import Derived.WideLaws
import Derived.Deep.DeepCutAuto
import Derived.Deep.CutBlock
import Derived.Deep.RegionHeld3
import Derived.Laws.Rows
import Derived.Lib.AppendStr
import Derived.ArgAppend
import Derived.Laws.IdiomCopy
import Derived.OrdersHeld
import Derived.Laws.BitsLemmas
import Derived.RowKit
import Derived.Test.YtmpmfdghdaofhaaDoorZH0
import Derived.Test.YtmpmfdghdaofhaaDoorZH4
import Derived.Laws.Runes
import Derived.Test.YtmpmfdghdaofhaaDoorZH1
import Derived.Test.YtmpmfdghdaofhaaDoorZH2
import Derived.Test.YtmpmfdghdaofhaaDoorZH5
import Derived.Test.YtmpmfdghdaofhaaDoorZH3
import Derived.Laws.StructEq
import Derived.Test.YtmpmfdghdaofhaaDoorZH6
import Derived.Test.YtmpmfdghdaofhaaDoorZH7
namespace Go.Proofs.YtmpmfdghdaofhaaDoor.PW
open Go.RowKit Go.Proofs.YtmpmfdghdaofhaaDoorW.PrintWords Go.Proofs.YtmpmfdghdaofhaaDoorW.PrintLast Go.Proofs.YtmpmfdghdaofhaaDoorW.PrintMore
attribute [local go_sem] max2_int min2_int max_two min_two max_three min_three max_four min_four
attribute [local go_sem] Ext.wrap64_mod256 Ext.wrap64_mod32 Ext.i64_mod256 Ext.i64_mod32 Ext.i64_u8 Ext.w64_u8 Ext.i64_u32 Ext.w64_u32
set_option linter.unusedVariables false
set_option linter.unusedSimpArgs false
def errW : Option Int → Value
  | none => .nilIface
  | some c => .iface 0 (.int .i64 c)
theorem errW_none : errW none = .nilIface := rfl
theorem errW_some (c : Int) : errW (some c) = .iface 0 (.int .i64 c) := rfl
theorem info2 : (Tryd.prog.info? 2).map (fun i => (i.zero, i.size, i.bytes)) = some (some (.int .i64 0), 1, 8) := by kernel_rfl
theorem info5 : (Tryd.prog.info? 5).map (fun i => (i.zero, i.size, i.bytes)) = some (some (.int .u8 0), 1, 1) := by kernel_rfl
end Go.Proofs.YtmpmfdghdaofhaaDoor.PW

namespace Go.Proofs.YtmpmfdghdaofhaaDoor.PW
open Go.RowKit Go.Proofs.YtmpmfdghdaofhaaDoorW.PrintWords Go.Proofs.YtmpmfdghdaofhaaDoorW.PrintLast Go.Proofs.YtmpmfdghdaofhaaDoorW.PrintMore
attribute [local go_sem] max2_int min2_int max_two min_two max_three min_three max_four min_four
attribute [local go_sem] Ext.wrap64_mod256 Ext.wrap64_mod32 Ext.i64_mod256 Ext.i64_mod32 Ext.i64_u8 Ext.w64_u8 Ext.i64_u32 Ext.w64_u32
set_option linter.unusedVariables false
set_option linter.unusedSimpArgs false
mutual
def xansi_utf8ByteLen.j0 : Nat → Int → Bool → Option (Int)
  | 0, _, _ => none
  | k + 1, x0, x10 => if x10 = true then (some 2) else (if x0 ≥ 224 then (xansi_utf8ByteLen.j1 k x0 (decide (x0 ≤ 239))) else (xansi_utf8ByteLen.j1 k x0 false))
def xansi_utf8ByteLen.j1 : Nat → Int → Bool → Option (Int)
  | 0, _, _ => none
  | k + 1, x0, x16 => if x16 = true then (some 3) else (if x0 ≥ 240 then (if x0 ≤ 247 then (some 4) else (some (-1))) else (some (-1)))
end
def xansi_utf8ByteLen.f (k : Nat) (a0 : Int) : Option (Int) := if a0 ≤ 127 then (some 1) else (if a0 ≥ 192 then (xansi_utf8ByteLen.j0 k a0 (decide (a0 ≤ 223))) else (xansi_utf8ByteLen.j0 k a0 false))
theorem xansi_utf8ByteLen.mono_l : ∀ k, (∀ y0 y1, LeO (xansi_utf8ByteLen.j0 k y0 y1) (xansi_utf8ByteLen.j0 (k + 1) y0 y1)) ∧ (∀ y0 y1, LeO (xansi_utf8ByteLen.j1 k y0 y1) (xansi_utf8ByteLen.j1 (k + 1) y0 y1))
  | 0 => ⟨fun _ _ r h => by simp [xansi_utf8ByteLen.j0] at h, fun _ _ r h => by simp [xansi_utf8ByteLen.j1] at h⟩
  | k + 1 => by
    obtain ⟨ih0, ih1⟩ := xansi_utf8ByteLen.mono_l k
    refine ⟨?_, ?_⟩
    · intro y0 y1
      unfold xansi_utf8ByteLen.j0
      repeat' first
      | (with_reducible exact ih0 _ _)
      | (with_reducible exact ih1 _ _)
      | (with_reducible exact LeO.refl _)
      | (with_reducible exact LeO.none _)
      | (with_reducible refine LeO.ite ?_ ?_)
      | (with_reducible refine LeO.bind ?_ (fun _ => ?_))
      | exact ih0 _ _
      | exact ih1 _ _
      | exact LeO.none _
      | refine LeO.ite ?_ ?_
      | refine LeO.bind ?_ (fun _ => ?_)
    · intro y0 y1
      unfold xansi_utf8ByteLen.j1
      repeat' first
      | (with_reducible exact ih0 _ _)
      | (with_reducible exact ih1 _ _)
      | (with_reducible exact LeO.refl _)
      | (with_reducible exact LeO.none _)
      | (with_reducible refine LeO.ite ?_ ?_)
      | (with_reducible refine LeO.bind ?_ (fun _ => ?_))
      | exact ih0 _ _
      | exact ih1 _ _
      | exact LeO.none _
      | refine LeO.ite ?_ ?_
      | refine LeO.bind ?_ (fun _ => ?_)
theorem xansi_utf8ByteLen.mono : ∀ a0 k, LeO (xansi_utf8ByteLen.f k a0) (xansi_utf8ByteLen.f (k + 1) a0) := by
  intro a0 k
  obtain ⟨ih0, ih1⟩ := xansi_utf8ByteLen.mono_l k
  unfold xansi_utf8ByteLen.f
  repeat' first
      | (with_reducible exact ih0 _ _)
      | (with_reducible exact ih1 _ _)
      | (with_reducible exact LeO.refl _)
      | (with_reducible exact LeO.none _)
      | (with_reducible refine LeO.ite ?_ ?_)
      | (with_reducible refine LeO.bind ?_ (fun _ => ?_))
      | exact ih0 _ _
      | exact ih1 _ _
      | exact LeO.none _
      | refine LeO.ite ?_ ?_
      | refine LeO.bind ?_ (fun _ => ?_)
set_option maxHeartbeats 8000000 in
set_option maxRecDepth 100000 in
theorem xansi_utf8ByteLen.calls (k : Nat) (a0 : Int) (r : Int) (w : World) (h : xansi_utf8ByteLen.f k a0 = some r) :
    Calls Tryd.prog 52 #[.int .u8 a0] w fun e w' => e = .returned (.int .i64 r) ∧ Drawn0 w w' := by
  have H : (if a0 ≤ 127 then (some 1) else (if a0 ≥ 192 then (xansi_utf8ByteLen.j0 k a0 (decide (a0 ≤ 223))) else (xansi_utf8ByteLen.j0 k a0 false))) = some r := h
  clear h
  by_cases c2 : a0 ≤ 127
  · rw [if_pos c2] at H
    have c2b0 : decide (a0 ≤ 127) = true := decide_eq_true c2
    clear c2
    obtain rfl := Option.some.inj H
    go_enter Tryd.func52, Tryd.ntmps52
    go_wp2
    go_ret
    exact ⟨by first | rfl | (simp; done) | (simp [*]; done), by repeat (first | exact Drawn0.refl _ | apply Drawn0.step)⟩
  · rw [if_neg c2] at H
    have c2b0 : decide (a0 ≤ 127) = false := decide_eq_false c2
    clear c2
    have HC3 := Aside0.mk H
    clear H
    go_enter Tryd.func52, Tryd.ntmps52
    go_upto_region 3 with (fail)
    go_cut [10] (fun v10 wc => ∃ (kq : Nat) (x10_2 : Bool), v10 = .bool x10_2 ∧ Aside0 (xansi_utf8ByteLen.j0 kq a0 x10_2 = some r) ∧ Aside0 (kq ≤ k) ∧ Drawn0 w wc)
    case first =>
      have H := HC3.out
      clear HC3
      by_cases c4 : a0 ≥ 192
      · rw [if_pos c4] at H
        have c4b0 : decide (192 ≤ a0) = true := decide_eq_true c4
        clear c4
        (first | rw [c4b0] | (simp only [i64_w, i32_w]; rw [c4b0]) | skip)
        have H' := Aside0.mk H
        clear H
        go_wp2
        go_meet
        case rel => exact ⟨_, (decide (a0 ≤ 223)), (by first | rfl | (simp; done) | (simp [*]; done)), H', ⟨by first | omega | exact Nat.le_refl _⟩, by repeat (first | exact Drawn0.refl _ | apply Drawn0.step)⟩
      · rw [if_neg c4] at H
        have c4b0 : decide (192 ≤ a0) = false := decide_eq_false c4
        clear c4
        (first | rw [c4b0] | (simp only [i64_w, i32_w]; rw [c4b0]) | skip)
        have H' := Aside0.mk H
        clear H
        go_wp2
        go_meet
        case rel => exact ⟨_, (false), (by first | rfl | (simp; done) | (simp [*]; done)), H', ⟨by first | omega | exact Nat.le_refl _⟩, by repeat (first | exact Drawn0.refl _ | apply Drawn0.step)⟩
    case rest =>
      clear HC3
      try clear c2
      try clear c2b0
      try clear p2
      try clear c4
      try clear c4b0
      obtain ⟨kq, x10_2, rfl, HA, HJ2, ⟨mc2, rfl⟩⟩ := hcut
      cases kq with
      | zero => exact absurd HA.out (by simp [xansi_utf8ByteLen.j0])
      | succ kj2 =>
        have H := HA.out
        clear HA
        simp only [xansi_utf8ByteLen.j0] at H
        by_cases c5 : x10_2 = true
        · subst c5
          have H1 : (some 2) = some r := by rw [if_pos rfl] at H; exact H
          clear H
          have H := H1
          clear H1
          obtain rfl := Option.some.inj H
          go_wp2
          go_ret
          exact ⟨by first | rfl | (simp; done) | (simp [*]; done), by repeat (first | exact Drawn0.refl _ | apply Drawn0.step)⟩
        · replace c5 := Bool.eq_false_iff.mpr c5
          subst c5
          have H1 : (if a0 ≥ 224 then (xansi_utf8ByteLen.j1 kj2 a0 (decide (a0 ≤ 239))) else (xansi_utf8ByteLen.j1 kj2 a0 false)) = some r := by rw [if_neg (show ¬ (false = true) by decide)] at H; exact H
          clear H
          have H := H1
          clear H1
          have HC6 := Aside0.mk H
          clear H
          go_upto_region 5 with (fail)
          go_cut [16] (fun v16 wc => ∃ (kq : Nat) (x16_5 : Bool), v16 = .bool x16_5 ∧ Aside0 (xansi_utf8ByteLen.j1 kq a0 x16_5 = some r) ∧ Aside0 (kq ≤ kj2) ∧ Drawn0 w wc)
          case first =>
            have H := HC6.out
            clear HC6
            by_cases c7 : a0 ≥ 224
            · rw [if_pos c7] at H
              have c7b0 : decide (224 ≤ a0) = true := decide_eq_true c7
              clear c7
              (first | rw [c7b0] | (simp only [i64_w, i32_w]; rw [c7b0]) | skip)
              have H' := Aside0.mk H
              clear H
              go_wp2
              go_meet
              case rel => exact ⟨_, (decide (a0 ≤ 239)), (by first | rfl | (simp; done) | (simp [*]; done)), H', ⟨by have := HJ2.out; first | omega | exact Nat.le_refl _⟩, by repeat (first | exact Drawn0.refl _ | apply Drawn0.step)⟩
            · rw [if_neg c7] at H
              have c7b0 : decide (224 ≤ a0) = false := decide_eq_false c7
              clear c7
              (first | rw [c7b0] | (simp only [i64_w, i32_w]; rw [c7b0]) | skip)
              have H' := Aside0.mk H
              clear H
              go_wp2
              go_meet
              case rel => exact ⟨_, (false), (by first | rfl | (simp; done) | (simp [*]; done)), H', ⟨by have := HJ2.out; first | omega | exact Nat.le_refl _⟩, by repeat (first | exact Drawn0.refl _ | apply Drawn0.step)⟩
          case rest =>
            clear HC6
            try clear c2
            try clear c2b0
            try clear p2
            try clear c4
            try clear c4b0
            try clear c5
            try clear c7
            try clear c7b0
            try clear p2
            obtain ⟨kq, x16_5, rfl, HA, HJ5, ⟨mc5, rfl⟩⟩ := hcut
            cases kq with
            | zero => exact absurd HA.out (by simp [xansi_utf8ByteLen.j1])
            | succ kj5 =>
              have H := HA.out
              clear HA
              simp only [xansi_utf8ByteLen.j1] at H
              by_cases c8 : x16_5 = true
              · subst c8
                have H1 : (some 3) = some r := by rw [if_pos rfl] at H; exact H
                clear H
                have H := H1
                clear H1
                obtain rfl := Option.some.inj H
                go_wp2
                go_ret
                exact ⟨by first | rfl | (simp; done) | (simp [*]; done), by repeat (first | exact Drawn0.refl _ | apply Drawn0.step)⟩
              · replace c8 := Bool.eq_false_iff.mpr c8
                subst c8
                have H1 : (if a0 ≥ 240 then (if a0 ≤ 247 then (some 4) else (some (-1))) else (some (-1))) = some r := by rw [if_neg (show ¬ (false = true) by decide)] at H; exact H
                clear H
                have H := H1
                clear H1
                by_cases c9 : a0 ≥ 240
                · rw [if_pos c9] at H
                  have c9b0 : decide (240 ≤ a0) = true := decide_eq_true c9
                  clear c9
                  by_cases c10 : a0 ≤ 247
                  · rw [if_pos c10] at H
                    have c10b0 : decide (a0 ≤ 247) = true := decide_eq_true c10
                    clear c10
                    obtain rfl := Option.some.inj H
                    go_wp2
                    go_ret
                    exact ⟨by first | rfl | (simp; done) | (simp [*]; done), by repeat (first | exact Drawn0.refl _ | apply Drawn0.step)⟩
                  · rw [if_neg c10] at H
                    have c10b0 : decide (a0 ≤ 247) = false := decide_eq_false c10
                    clear c10
                    obtain rfl := Option.some.inj H
                    go_wp2
                    go_ret
                    exact ⟨by first | rfl | (simp; done) | (simp [*]; done), by repeat (first | exact Drawn0.refl _ | apply Drawn0.step)⟩
                · rw [if_neg c9] at H
                  have c9b0 : decide (240 ≤ a0) = false := decide_eq_false c9
                  clear c9
                  obtain rfl := Option.some.inj H
                  go_wp2
                  go_ret
                  exact ⟨by first | rfl | (simp; done) | (simp [*]; done), by repeat (first | exact Drawn0.refl _ | apply Drawn0.step)⟩
def spec_pointBytes.f (a0 : Int) : Option (Int) := if a0 < 224 then (some 2) else (if a0 < 240 then (some 3) else (some 4))
set_option maxHeartbeats 8000000 in
set_option maxRecDepth 100000 in
theorem spec_pointBytes.calls (a0 : Int) (r : Int) (w : World) (h : spec_pointBytes.f a0 = some r) :
    Calls Tryd.prog 37 #[.int .u8 a0] w fun e w' => e = .returned (.int .i64 r) ∧ Drawn0 w w' := by
  have H : (if a0 < 224 then (some 2) else (if a0 < 240 then (some 3) else (some 4))) = some r := h
  clear h
  by_cases c2 : a0 < 224
  · rw [if_pos c2] at H
    have c2b0 : decide (a0 < 224) = true := decide_eq_true c2
    clear c2
    obtain rfl := Option.some.inj H
    go_enter Tryd.func37, Tryd.ntmps37
    go_wp2
    go_ret
    exact ⟨by first | rfl | (simp; done) | (simp [*]; done), by repeat (first | exact Drawn0.refl _ | apply Drawn0.step)⟩
  · rw [if_neg c2] at H
    have c2b0 : decide (a0 < 224) = false := decide_eq_false c2
    clear c2
    by_cases c3 : a0 < 240
    · rw [if_pos c3] at H
      have c3b0 : decide (a0 < 240) = true := decide_eq_true c3
      clear c3
      obtain rfl := Option.some.inj H
      go_enter Tryd.func37, Tryd.ntmps37
      go_wp2
      go_ret
      exact ⟨by first | rfl | (simp; done) | (simp [*]; done), by repeat (first | exact Drawn0.refl _ | apply Drawn0.step)⟩
    · rw [if_neg c3] at H
      have c3b0 : decide (a0 < 240) = false := decide_eq_false c3
      clear c3
      obtain rfl := Option.some.inj H
      go_enter Tryd.func37, Tryd.ntmps37
      go_wp2
      go_ret
      exact ⟨by first | rfl | (simp; done) | (simp [*]; done), by repeat (first | exact Drawn0.refl _ | apply Drawn0.step)⟩
def impl_ints.l0 : Nat → List Int → List Int → Int → Int → Option (List Int)
  | 0, _, _, _, _ => none
  | k + 1, x3, x6, x7, x8 => if x8 < x7 then (if 0 ≤ x8 then (if x8 < (x6.length : Int) then (if x3.length < 17592186044416 then (impl_ints.l0 k (x3 ++ [rd x6 x8]) x6 x7 (wrap64 (x8 + 1))) else (none)) else (none)) else (none)) else (some x3)
def impl_ints.f (k : Nat) (l0 : List Int) : Option (List Int) := impl_ints.l0 k ([] : List Int) l0 (l0.length : Int) 0
theorem impl_ints.mono_l : ∀ k, (∀ y0 y1 y2 y3, LeO (impl_ints.l0 k y0 y1 y2 y3) (impl_ints.l0 (k + 1) y0 y1 y2 y3))
  | 0 => fun _ _ _ _ r h => by simp [impl_ints.l0] at h
  | k + 1 => by
    have ih0 := impl_ints.mono_l k
    · intro y0 y1 y2 y3
      unfold impl_ints.l0
      repeat' first
      | (with_reducible exact ih0 _ _ _ _)
      | (with_reducible exact LeO.refl _)
      | (with_reducible exact LeO.none _)
      | (with_reducible refine LeO.ite ?_ ?_)
      | (with_reducible refine LeO.bind ?_ (fun _ => ?_))
      | exact ih0 _ _ _ _
      | exact LeO.none _
      | refine LeO.ite ?_ ?_
      | refine LeO.bind ?_ (fun _ => ?_)
theorem impl_ints.mono : ∀ a0 k, LeO (impl_ints.f k a0) (impl_ints.f (k + 1) a0) := by
  intro a0 k
  have ih0 := impl_ints.mono_l k
  unfold impl_ints.f
  repeat' first
      | (with_reducible exact ih0 _ _ _ _)
      | (with_reducible exact LeO.refl _)
      | (with_reducible exact LeO.none _)
      | (with_reducible refine LeO.ite ?_ ?_)
      | (with_reducible refine LeO.bind ?_ (fun _ => ?_))
      | exact ih0 _ _ _ _
      | exact LeO.none _
      | refine LeO.ite ?_ ?_
      | refine LeO.bind ?_ (fun _ => ?_)
set_option maxHeartbeats 8000000 in
set_option maxRecDepth 100000 in
theorem impl_ints.calls (k : Nat) (A0 : Option Addr) (c0 : Nat) (l0 : List Int) (r : List Int) (w : World) (hr0 : Kd.C (Kd.int .i64) w A0 l0.length l0) (hc0 : l0.length ≤ c0) (h : impl_ints.f k l0 = some r) :
    Calls Tryd.prog 34 #[.slice A0 l0.length c0] w fun e w' => ∃ v0_ : Value, e = .returned (v0_) ∧ Kd.R (Kd.int .i64) 2 w' w.heap.size (fun _ => True) v0_ r ∧ Below w.heap.size w w' := by
  have HR0 := Aside0.mk hr0
  have HC0 := Aside0.mk hc0
  clear hr0 hc0
  have HB := Aside0.mk (Below.refl w.heap.size w)
  have H : (impl_ints.l0 k ([] : List Int) l0 (l0.length : Int) 0) = some r := h
  clear h
  have H' := Aside0.mk H
  clear H
  go_enter Tryd.func34, Tryd.ntmps34
  go_wp2
  go_loopg [3, 8] k (fun kq v3 v8 w' => ∃ (x3_1 : List Int) (x8_1 : Int), v8 = .int .i64 x8_1 ∧ Aside0 (impl_ints.l0 kq x3_1 l0 (l0.length : Int) x8_1 = some r) ∧ Aside0 (kq ≤ k) ∧ Aside0 (Kd.R (Kd.int .i64) 2 w' w.heap.size (fun _ => True) v3 x3_1) ∧ Aside0 (Below w.heap.size w w'))
  case atStart => exact ⟨(([] : List Int)), (0), (by first | rfl | (simp; done) | (simp [*]; done)), H', ⟨Nat.le_refl _⟩, ⟨by first | exact Kd.R_nil _ _ _ _ _ | exact Kd.N_nil _ _ _ _ _ | exact Kd.V_nil _ _ _ _ _ | exact Kd.Q_nil _ _ _ _ _ | exact Kd.S_nil _ _ _ _ _⟩, ⟨by repeat (first | (with_reducible first | exact HB.out | apply below_alloc | apply Ext.below_bytes | apply pw_below_drewN | apply below_drew1) | exact HB.out)⟩⟩
  case round =>
    clear H'
    obtain ⟨x3_1, x8_1, rfl, HA, HK1, HO_3, HB⟩ := hrel
    cases gk with
    | zero => exact absurd HA.out (by simp [impl_ints.l0])
    | succ k1 =>
      have H := HA.out
      clear HA
      simp only [impl_ints.l0] at H
      by_cases c2 : x8_1 < (l0.length : Int)
      · rw [if_pos c2] at H
        have c2b0 : decide (x8_1 < (l0.length : Int)) = true := decide_eq_true c2
        clear c2
        by_cases c3 : 0 ≤ x8_1
        · rw [if_pos c3] at H
          have c3b0 : decide (0 ≤ x8_1) = true := decide_eq_true c3
          clear c3
          by_cases c4 : x8_1 < (l0.length : Int)
          · rw [if_pos c4] at H
            have c4b0 : decide (x8_1 < (l0.length : Int)) = true := decide_eq_true c4
            clear c4
            by_cases c5 : x3_1.length < 17592186044416
            · rw [if_pos c5] at H
              have LMc5 := Aside0.mk c5
              clear c5
              obtain ⟨y102, hy102⟩ : ∃ y_ : List Int, y_ = (x3_1 ++ [rd l0 x8_1]) := ⟨_, rfl⟩
              replace H : (impl_ints.l0 k1 y102 l0 (l0.length : Int) (wrap64 (x8_1 + 1))) = some r := by first | (rw [hy102]; with_reducible exact H) | (have H2_ := (Option.bind_some _ _).symm.trans H; rw [hy102]; with_reducible exact H2_) | (have H2_ := (Option.bind_some _ _).symm.trans H; with_reducible exact H2_) | with_reducible exact H | (rw [hy102]; exact H) | exact H
              have Ny102 := Aside0.mk hy102
              clear hy102
              have H' := Aside0.mk H
              clear H
              have p101 : 0 ≤ (x8_1 : Int) := of_decide_eq_true (by first | (with_reducible assumption) | assumption)
              have q101 : x8_1 < (l0.length : Int) := of_decide_eq_true (by first | (with_reducible assumption) | assumption)
              obtain ⟨ad101, e101, hx101_0⟩ := Kd.at_int HR0.out x8_1 p101 q101
              cases e101
              replace hx101_0 := (HB.out.cell (World.block_lt_of_cell? w _ hx101_0)).trans hx101_0
              replace p101 := eq_true p101
              replace q101 := eq_true q101
              go_wp2_with (first | ((with_reducible refine gate_builtin (b := .append) (xs := #[.tmp 12, .tmp 14]) rfl ?_); at_builtin; refine Kd.R_append (Kd.int .i64) (w0 := w) w.heap.size rfl (.tmp 12) (.tmp 14) 35 2 (.int .i64 0) 8 rfl Tryd.underlying35 info2 rfl (by decide) (by omega) u3 x3_1 (rd l0 x8_1) [.int .i64 (rd l0 x8_1)] (fun _ => True) (fun _ => False) rfl rfl ?aP (fun _ hk => hk.elim) ?aF ?aO ?aB ?aS ?aL ?_; (case aP => exact rfl); (case aB => exact (by repeat (first | (with_reducible first | exact HB.out | apply below_alloc | apply Ext.below_bytes | apply pw_below_drewN | apply below_drew1) | exact HB.out))); (case aF => exact (fun _ _ => trivial)); (case aO => exact (by (with_reducible repeat (first | apply Kd.R_alloc | apply Ext.R_bytes | apply Kd.R_drewN | apply Kd.R_drew)); exact HO_3.out)); (case aS => exact (below_size (by repeat (first | (with_reducible first | exact HB.out | apply below_alloc | apply Ext.below_bytes | apply pw_below_drewN | apply below_drew1) | exact HB.out)))); (case aL => have := LMc5.out; omega); intro v103 w6 ho hb hg hat; rw [← Ny102.out] at ho; have n0_ := Aside0.mk (hb); have n1_ := Aside0.mk (ho); clear HB; clear HO_3; have HB := n0_; have HO104 := n1_; clear n0_ n1_; clear ho hb hg hat))
              go_roundg k1
              case measure => have := HK1.out; omega
              case rel => exact ⟨(y102), (wrap64 (x8_1 + 1)), (by first | rfl | (simp; done) | (simp [*]; done)), H', ⟨by have := HK1.out; omega⟩, ⟨by (with_reducible repeat (first | apply Kd.R_alloc | apply Ext.R_bytes | apply Kd.R_drewN | apply Kd.R_drew)); exact HO104.out⟩, ⟨by repeat (first | (with_reducible first | exact HB.out | apply below_alloc | apply Ext.below_bytes | apply pw_below_drewN | apply below_drew1) | exact HB.out)⟩⟩
            · rw [if_neg c5] at H
              exact absurd H (by simp)
          · rw [if_neg c4] at H
            exact absurd H (by simp)
        · rw [if_neg c3] at H
          exact absurd H (by simp)
      · rw [if_neg c2] at H
        have c2b0 : decide (x8_1 < (l0.length : Int)) = false := decide_eq_false c2
        clear c2
        obtain rfl := Option.some.inj H
        go_wp2
        go_ret
        exact ⟨_, by first | rfl | (simp [errW_none, errW_some] <;> rfl) | (simp [*, errW_none, errW_some] <;> rfl), by (with_reducible repeat (first | apply Kd.R_alloc | apply Ext.R_bytes | apply Kd.R_drewN | apply Kd.R_drew)); exact HO_3.out, by repeat (first | (with_reducible first | exact HB.out | apply below_alloc | apply Ext.below_bytes | apply pw_below_drewN | apply below_drew1) | exact HB.out)⟩
def impl_own.f (l0 : List Int) : Option (List Int) := if ([] : List Int).length + l0.length < 140737488355328 then (some (([] : List Int) ++ l0)) else (none)
set_option maxHeartbeats 8000000 in
set_option maxRecDepth 100000 in
theorem impl_own.calls (A0 : Option Addr) (c0 : Nat) (l0 : List Int) (r : List Int) (w : World) (hr0 : Kd.C (Kd.int .u8) w A0 l0.length l0) (hc0 : l0.length ≤ c0) (h : impl_own.f l0 = some r) :
    Calls Tryd.prog 28 #[.slice A0 l0.length c0] w fun e w' => ∃ v0_ : Value, e = .returned (v0_) ∧ Kd.R (Kd.int .u8) 5 w' w.heap.size (fun _ => True) v0_ r ∧ Below w.heap.size w w' := by
  have HR0 := Aside0.mk hr0
  have HC0 := Aside0.mk hc0
  clear hr0 hc0
  have HB := Aside0.mk (Below.refl w.heap.size w)
  have H : (if ([] : List Int).length + l0.length < 140737488355328 then (some (([] : List Int) ++ l0)) else (none)) = some r := h
  clear h
  by_cases c2 : ([] : List Int).length + l0.length < 140737488355328
  · rw [if_pos c2] at H
    have LMc2 := Aside0.mk c2
    clear c2
    obtain ⟨y105, hy105⟩ : ∃ y_ : List Int, y_ = (([] : List Int) ++ l0) := ⟨_, rfl⟩
    replace H : (some y105) = some r := by first | (rw [hy105]; with_reducible exact H) | (have H2_ := (Option.bind_some _ _).symm.trans H; rw [hy105]; with_reducible exact H2_) | (have H2_ := (Option.bind_some _ _).symm.trans H; with_reducible exact H2_) | with_reducible exact H | (rw [hy105]; exact H) | exact H
    have Ny105 := Aside0.mk hy105
    clear hy105
    obtain rfl := Option.some.inj H
    go_enter Tryd.func28, Tryd.ntmps28
    go_wp2_with (first | ((with_reducible refine gate_builtin (b := .append) (xs := #[.const (.slice none 0 0), .tmp 3]) rfl ?_); at_builtin; refine Kd.R_append_rows (Kd.int .u8) (w0 := w) w.heap.size rfl (.const (.slice none 0 0)) (.tmp 3) 27 5 (.int .u8 0) 1 rfl Tryd.underlying27 info5 rfl (by decide) (by omega) (.slice none 0 0) ([] : List Int) l0 _ _ _ (fun _ => True) (fun _ => False) rfl rfl ?aO ?aR (fun _ _ h => h) (fun _ h => h.elim) ?aF ?aB ?aS ?aL ?_; (case aR => repeat (first | exact HR0.out | (with_reducible refine Kd.C_alloc ?_ _) | (with_reducible refine Kd.C_drewN ?_ _) | (with_reducible refine Kd.C_drew ?_))); (case aB => exact (by repeat (first | (with_reducible first | exact HB.out | apply below_alloc | apply Ext.below_bytes | apply pw_below_drewN | apply below_drew1) | exact HB.out))); (case aF => exact (fun _ _ => trivial)); (case aO => exact ((Kd.R_nil _ _ _ _ (fun _ => True)))); (case aS => exact (below_size (by repeat (first | (with_reducible first | exact HB.out | apply below_alloc | apply Ext.below_bytes | apply pw_below_drewN | apply below_drew1) | exact HB.out)))); (case aL => have := LMc2.out; omega); intro v106 w3 ho hb hg hat; rw [← Ny105.out] at ho; have n0_ := Aside0.mk (hb); have n1_ := Aside0.mk (ho); clear HB; have HB := n0_; have HO107 := n1_; clear n0_ n1_; clear ho hb hg hat))
    go_ret
    exact ⟨_, by first | rfl | (simp [errW_none, errW_some] <;> rfl) | (simp [*, errW_none, errW_some] <;> rfl), by (with_reducible repeat (first | apply Kd.R_alloc | apply Ext.R_bytes | apply Kd.R_drewN | apply Kd.R_drew)); exact HO107.out, by repeat (first | (with_reducible first | exact HB.out | apply below_alloc | apply Ext.below_bytes | apply pw_below_drewN | apply below_drew1) | exact HB.out)⟩
  · rw [if_neg c2] at H
    exact absurd H (by simp)
end Go.Proofs.YtmpmfdghdaofhaaDoor.PW
