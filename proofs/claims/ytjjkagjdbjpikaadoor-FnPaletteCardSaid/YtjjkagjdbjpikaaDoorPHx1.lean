-- Written by wip/pp.py, a program of this session, out of the translation. Not trusted: Lean checks it.
import Derived.Test.YtjjkagjdbjpikaaDoorPHx0
namespace Go.Proofs.YtjjkagjdbjpikaaDoor.PH
open Go.RowKit Go.Proofs.YtjjkagjdbjpikaaDoor.Or Go.Proofs.YtjjkagjdbjpikaaDoorW.PrintWords Go.Proofs.YtjjkagjdbjpikaaDoorW.PrintLast Go.Proofs.YtjjkagjdbjpikaaDoorW.PrintMore
attribute [local go_sem] max2_int min2_int max_two min_two max_three min_three max_four min_four   -- for this text's walks alone
attribute [local go_sem] Go.Proofs.YtjjkagjdbjpikaaDoor.Ext.wrap64_mod256 Go.Proofs.YtjjkagjdbjpikaaDoor.Ext.wrap64_mod32 Go.Proofs.YtjjkagjdbjpikaaDoor.Ext.i64_mod256 Go.Proofs.YtjjkagjdbjpikaaDoor.Ext.i64_mod32 Go.Proofs.YtjjkagjdbjpikaaDoor.Ext.i64_u8 Go.Proofs.YtjjkagjdbjpikaaDoor.Ext.w64_u8 Go.Proofs.YtjjkagjdbjpikaaDoor.Ext.i64_u32 Go.Proofs.YtjjkagjdbjpikaaDoor.Ext.w64_u32 
set_option linter.unusedVariables false
set_option linter.unusedSimpArgs false

/-! ### xansi_zzHex: function 107 -/
def xansi_zzHex.l0 : Nat → Int → Int → ByteArray → Option (ByteArray)
  | 0, _, _, _ => none
  | k + 1, x0, x1, x5 => if x0 > 0 then (if 0 ≤ (Go.bits .and .u32 x0 15) then (if (Go.bits .and .u32 x0 15) < 16 then (if (Utf8.encode (bt (⟨#[48, 49, 50, 51, 52, 53, 54, 55, 56, 57, 97, 98, 99, 100, 101, 102]⟩ : ByteArray) (Go.bits .and .u32 x0 15))).size + x5.size ≤ 9223372036854775807 then (xansi_zzHex.l0 k (x0 / 16) x1 ((Utf8.encode (bt (⟨#[48, 49, 50, 51, 52, 53, 54, 55, 56, 57, 97, 98, 99, 100, 101, 102]⟩ : ByteArray) (Go.bits .and .u32 x0 15))) ++ x5)) else (none)) else (none)) else (none)) else (if (x5.size : Int) < x1 then (if 0 ≤ (Go.bits .and .u32 x0 15) then (if (Go.bits .and .u32 x0 15) < 16 then (if (Utf8.encode (bt (⟨#[48, 49, 50, 51, 52, 53, 54, 55, 56, 57, 97, 98, 99, 100, 101, 102]⟩ : ByteArray) (Go.bits .and .u32 x0 15))).size + x5.size ≤ 9223372036854775807 then (xansi_zzHex.l0 k (x0 / 16) x1 ((Utf8.encode (bt (⟨#[48, 49, 50, 51, 52, 53, 54, 55, 56, 57, 97, 98, 99, 100, 101, 102]⟩ : ByteArray) (Go.bits .and .u32 x0 15))) ++ x5)) else (none)) else (none)) else (none)) else (some x5))
def xansi_zzHex.f (k : Nat) (a0 : Int) (a1 : Int) : Option (ByteArray) := xansi_zzHex.l0 k a0 a1 (⟨#[]⟩ : ByteArray)
theorem xansi_zzHex.mono_l : ∀ k, (∀ y0 y1 y2, LeO (xansi_zzHex.l0 k y0 y1 y2) (xansi_zzHex.l0 (k + 1) y0 y1 y2))
  | 0 => fun _ _ _ r h => by simp [xansi_zzHex.l0] at h
  | k + 1 => by
    have ih0 := xansi_zzHex.mono_l k
    · intro y0 y1 y2
      unfold xansi_zzHex.l0
      repeat' first
      | (with_reducible exact ih0 _ _ _)
      | (with_reducible exact LeO.refl _)
      | (with_reducible exact LeO.none _)
      | (with_reducible refine LeO.ite ?_ ?_)
      | (with_reducible refine LeO.bind ?_ (fun _ => ?_))
      | exact ih0 _ _ _
      | exact LeO.none _
      | refine LeO.ite ?_ ?_
      | refine LeO.bind ?_ (fun _ => ?_)
theorem xansi_zzHex.mono : ∀ a0 a1 k, LeO (xansi_zzHex.f k a0 a1) (xansi_zzHex.f (k + 1) a0 a1) := by
  intro a0 a1 k
  have ih0 := xansi_zzHex.mono_l k
  unfold xansi_zzHex.f
  repeat' first
      | (with_reducible exact ih0 _ _ _)
      | (with_reducible exact LeO.refl _)
      | (with_reducible exact LeO.none _)
      | (with_reducible refine LeO.ite ?_ ?_)
      | (with_reducible refine LeO.bind ?_ (fun _ => ?_))
      | exact ih0 _ _ _
      | exact LeO.none _
      | refine LeO.ite ?_ ?_
      | refine LeO.bind ?_ (fun _ => ?_)
set_option maxHeartbeats 8000000 in
set_option maxRecDepth 100000 in
theorem xansi_zzHex.calls (k : Nat) (a0 : Int) (a1 : Int) (r : ByteArray) (w : World) (h : xansi_zzHex.f k a0 a1 = some r) :
    Calls Tryd.prog 107 #[.int .u32 a0, .int .i64 a1] w fun e w' => e = .returned (.string r) ∧ Drawn0 w w' := by
  have H : (xansi_zzHex.l0 k a0 a1 (⟨#[]⟩ : ByteArray)) = some r := h
  clear h
  have H' := Aside0.mk H
  clear H
  go_enter Tryd.func107, Tryd.ntmps107
  go_wp2
  go_loopg [0, 5] k (fun kq v0 v5 w' => ∃ (x0_1 : Int) (x5_1 : ByteArray), v0 = .int .u32 x0_1 ∧ v5 = .string x5_1 ∧ Aside0 (xansi_zzHex.l0 kq x0_1 a1 x5_1 = some r) ∧ Aside0 (kq ≤ k) ∧ Drawn0 w w')
  case atStart => exact ⟨(a0), ((⟨#[]⟩ : ByteArray)), (by first | rfl | (simp; done) | (simp [*]; done)), (by first | rfl | (simp; done) | (simp [*]; done)), H', ⟨Nat.le_refl _⟩, by repeat (first | exact Drawn0.refl _ | apply Drawn0.step)⟩
  case round =>
    clear H'
    try clear c1
    try clear p2
    obtain ⟨x0_1, x5_1, rfl, rfl, HA, HK1, ⟨m1, rfl⟩⟩ := hrel
    cases gk with
    | zero => exact absurd HA.out (by simp [xansi_zzHex.l0])
    | succ k1 =>
      have H := HA.out
      clear HA
      simp only [xansi_zzHex.l0] at H
      by_cases c3 : x0_1 > 0
      · rw [if_pos c3] at H
        have c3b0 : decide (0 < x0_1) = true := decide_eq_true c3
        clear c3
        by_cases c4 : 0 ≤ (Go.bits .and .u32 x0_1 15)
        · rw [if_pos c4] at H
          have c4b0 : decide (0 ≤ (Go.bits .and .u32 x0_1 15)) = true := decide_eq_true c4
          clear c4
          by_cases c5 : (Go.bits .and .u32 x0_1 15) < 16
          · rw [if_pos c5] at H
            have c5b0 : decide ((Go.bits .and .u32 x0_1 15) < 16) = true := decide_eq_true c5
            clear c5
            by_cases c7 : (Utf8.encode (bt (⟨#[48, 49, 50, 51, 52, 53, 54, 55, 56, 57, 97, 98, 99, 100, 101, 102]⟩ : ByteArray) (Go.bits .and .u32 x0_1 15))).size + x5_1.size ≤ 9223372036854775807
            · rw [if_pos c7] at H
              have c7b0 := eq_true c7
              have c7b1 : decide ((Utf8.encode (bt (⟨#[48, 49, 50, 51, 52, 53, 54, 55, 56, 57, 97, 98, 99, 100, 101, 102]⟩ : ByteArray) (Go.bits .and .u32 x0_1 15))).size + x5_1.size ≤ 9223372036854775807) = true := decide_eq_true c7
              try have c7b2 : (9223372036854775807 < (Utf8.encode (bt (⟨#[48, 49, 50, 51, 52, 53, 54, 55, 56, 57, 97, 98, 99, 100, 101, 102]⟩ : ByteArray) (Go.bits .and .u32 x0_1 15))).size + x5_1.size) = False := eq_false (Nat.not_lt.2 c7)
              have H' := Aside0.mk H
              clear H
              have p6 : 0 ≤ ((Go.bits .and .u32 x0_1 15) : Int) := of_decide_eq_true (by first | (with_reducible assumption) | assumption)
              have q6 : (Go.bits .and .u32 x0_1 15) < (16 : Int) := of_decide_eq_true (by first | (with_reducible assumption) | assumption)
              have hx6 := bt_at (⟨#[48, 49, 50, 51, 52, 53, 54, 55, 56, 57, 97, 98, 99, 100, 101, 102]⟩ : ByteArray) (Go.bits .and .u32 x0_1 15)
              replace p6 := eq_true p6
              replace q6 := eq_true q6
              go_wp2
              go_roundg k1
              case measure => have := HK1.out; omega
              case rel => exact ⟨(x0_1 / 16), ((Utf8.encode (bt (⟨#[48, 49, 50, 51, 52, 53, 54, 55, 56, 57, 97, 98, 99, 100, 101, 102]⟩ : ByteArray) (Go.bits .and .u32 x0_1 15))) ++ x5_1), (by first | rfl | (simp; done) | (simp [*]; done)), (by first | rfl | (simp; done) | (simp [*]; done)), H', ⟨by have := HK1.out; omega⟩, by repeat (first | exact Drawn0.refl _ | apply Drawn0.step)⟩
            · rw [if_neg c7] at H
              exact absurd H (by simp)
          · rw [if_neg c5] at H
            exact absurd H (by simp)
        · rw [if_neg c4] at H
          exact absurd H (by simp)
      · rw [if_neg c3] at H
        have c3b0 : decide (0 < x0_1) = false := decide_eq_false c3
        clear c3
        by_cases c8 : (x5_1.size : Int) < a1
        · rw [if_pos c8] at H
          have c8b0 : decide ((x5_1.size : Int) < a1) = true := decide_eq_true c8
          clear c8
          by_cases c9 : 0 ≤ (Go.bits .and .u32 x0_1 15)
          · rw [if_pos c9] at H
            have c9b0 : decide (0 ≤ (Go.bits .and .u32 x0_1 15)) = true := decide_eq_true c9
            clear c9
            by_cases c10 : (Go.bits .and .u32 x0_1 15) < 16
            · rw [if_pos c10] at H
              have c10b0 : decide ((Go.bits .and .u32 x0_1 15) < 16) = true := decide_eq_true c10
              clear c10
              by_cases c12 : (Utf8.encode (bt (⟨#[48, 49, 50, 51, 52, 53, 54, 55, 56, 57, 97, 98, 99, 100, 101, 102]⟩ : ByteArray) (Go.bits .and .u32 x0_1 15))).size + x5_1.size ≤ 9223372036854775807
              · rw [if_pos c12] at H
                have c12b0 := eq_true c12
                have c12b1 : decide ((Utf8.encode (bt (⟨#[48, 49, 50, 51, 52, 53, 54, 55, 56, 57, 97, 98, 99, 100, 101, 102]⟩ : ByteArray) (Go.bits .and .u32 x0_1 15))).size + x5_1.size ≤ 9223372036854775807) = true := decide_eq_true c12
                try have c12b2 : (9223372036854775807 < (Utf8.encode (bt (⟨#[48, 49, 50, 51, 52, 53, 54, 55, 56, 57, 97, 98, 99, 100, 101, 102]⟩ : ByteArray) (Go.bits .and .u32 x0_1 15))).size + x5_1.size) = False := eq_false (Nat.not_lt.2 c12)
                have H' := Aside0.mk H
                clear H
                have p11 : 0 ≤ ((Go.bits .and .u32 x0_1 15) : Int) := of_decide_eq_true (by first | (with_reducible assumption) | assumption)
                have q11 : (Go.bits .and .u32 x0_1 15) < (16 : Int) := of_decide_eq_true (by first | (with_reducible assumption) | assumption)
                have hx11 := bt_at (⟨#[48, 49, 50, 51, 52, 53, 54, 55, 56, 57, 97, 98, 99, 100, 101, 102]⟩ : ByteArray) (Go.bits .and .u32 x0_1 15)
                replace p11 := eq_true p11
                replace q11 := eq_true q11
                go_wp2
                go_roundg k1
                case measure => have := HK1.out; omega
                case rel => exact ⟨(x0_1 / 16), ((Utf8.encode (bt (⟨#[48, 49, 50, 51, 52, 53, 54, 55, 56, 57, 97, 98, 99, 100, 101, 102]⟩ : ByteArray) (Go.bits .and .u32 x0_1 15))) ++ x5_1), (by first | rfl | (simp; done) | (simp [*]; done)), (by first | rfl | (simp; done) | (simp [*]; done)), H', ⟨by have := HK1.out; omega⟩, by repeat (first | exact Drawn0.refl _ | apply Drawn0.step)⟩
              · rw [if_neg c12] at H
                exact absurd H (by simp)
            · rw [if_neg c10] at H
              exact absurd H (by simp)
          · rw [if_neg c9] at H
            exact absurd H (by simp)
        · rw [if_neg c8] at H
          have c8b0 : decide ((x5_1.size : Int) < a1) = false := decide_eq_false c8
          clear c8
          obtain rfl := Option.some.inj H
          go_wp2
          go_ret
          exact ⟨by first | rfl | (simp; done) | (simp [*]; done), by repeat (first | exact Drawn0.refl _ | apply Drawn0.step)⟩

end Go.Proofs.YtjjkagjdbjpikaaDoor.PH
