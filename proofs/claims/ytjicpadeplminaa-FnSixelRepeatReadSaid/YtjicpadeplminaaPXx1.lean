-- Written by wip/pp.py, a program of this session, out of the translation. Not trusted: Lean checks it.
import Derived.Test.YtjicpadeplminaaPXx0
namespace Go.Proofs.Ytjicpadeplminaa.PX
open Go.RowKit Go.Proofs.YtjicpadeplminaaW.PrintWords Go.Proofs.YtjicpadeplminaaW.PrintLast Go.Proofs.YtjicpadeplminaaW.PrintMore
attribute [local go_sem] max2_int min2_int max_two min_two max_three min_three max_four min_four   -- for this text's walks alone
attribute [local go_sem] Go.Proofs.Ytjicpadeplminaa.Ext.wrap64_mod256 Go.Proofs.Ytjicpadeplminaa.Ext.wrap64_mod32 Go.Proofs.Ytjicpadeplminaa.Ext.i64_mod256 Go.Proofs.Ytjicpadeplminaa.Ext.i64_mod32 Go.Proofs.Ytjicpadeplminaa.Ext.i64_u8 Go.Proofs.Ytjicpadeplminaa.Ext.w64_u8 Go.Proofs.Ytjicpadeplminaa.Ext.i64_u32 Go.Proofs.Ytjicpadeplminaa.Ext.w64_u32 
set_option linter.unusedVariables false
set_option linter.unusedSimpArgs false

/-! ### spec_FewDigits: function 8 -/
mutual
def spec_FewDigits.l0 : Nat → Int → List Int → Int → Int → Option (Bool)
  | 0, _, _, _, _ => none
  | k + 1, x3, x6, x7, x8 => if x8 < x7 then (if 0 ≤ x8 then (if x8 < (x6.length : Int) then (if (rd x6 x8) < 48 then (spec_FewDigits.j1 k x3 x6 x7 x8 true) else (spec_FewDigits.j1 k x3 x6 x7 x8 (decide ((rd x6 x8) > 57)))) else (none)) else (none)) else (some true)
def spec_FewDigits.j1 : Nat → Int → List Int → Int → Int → Bool → Option (Bool)
  | 0, _, _, _, _, _ => none
  | k + 1, x3, x6, x7, x8, x17 => if x17 = true then (spec_FewDigits.l0 k 0 x6 x7 (wrap64 (x8 + 1))) else (if (wrap64 (x3 + 1)) > 17 then (some false) else (spec_FewDigits.l0 k (wrap64 (x3 + 1)) x6 x7 (wrap64 (x8 + 1))))
end
def spec_FewDigits.f (k : Nat) (l0 : List Int) : Option (Bool) := spec_FewDigits.l0 k 0 l0 (l0.length : Int) 0
theorem spec_FewDigits.mono_l : ∀ k, (∀ y0 y1 y2 y3, LeO (spec_FewDigits.l0 k y0 y1 y2 y3) (spec_FewDigits.l0 (k + 1) y0 y1 y2 y3)) ∧ (∀ y0 y1 y2 y3 y4, LeO (spec_FewDigits.j1 k y0 y1 y2 y3 y4) (spec_FewDigits.j1 (k + 1) y0 y1 y2 y3 y4))
  | 0 => ⟨fun _ _ _ _ r h => by simp [spec_FewDigits.l0] at h, fun _ _ _ _ _ r h => by simp [spec_FewDigits.j1] at h⟩
  | k + 1 => by
    obtain ⟨ih0, ih1⟩ := spec_FewDigits.mono_l k
    refine ⟨?_, ?_⟩
    · intro y0 y1 y2 y3
      unfold spec_FewDigits.l0
      repeat' first
      | (with_reducible exact ih0 _ _ _ _)
      | (with_reducible exact ih1 _ _ _ _ _)
      | (with_reducible exact LeO.refl _)
      | (with_reducible exact LeO.none _)
      | (with_reducible refine LeO.ite ?_ ?_)
      | (with_reducible refine LeO.bind ?_ (fun _ => ?_))
      | exact ih0 _ _ _ _
      | exact ih1 _ _ _ _ _
      | exact LeO.none _
      | refine LeO.ite ?_ ?_
      | refine LeO.bind ?_ (fun _ => ?_)
    · intro y0 y1 y2 y3 y4
      unfold spec_FewDigits.j1
      repeat' first
      | (with_reducible exact ih0 _ _ _ _)
      | (with_reducible exact ih1 _ _ _ _ _)
      | (with_reducible exact LeO.refl _)
      | (with_reducible exact LeO.none _)
      | (with_reducible refine LeO.ite ?_ ?_)
      | (with_reducible refine LeO.bind ?_ (fun _ => ?_))
      | exact ih0 _ _ _ _
      | exact ih1 _ _ _ _ _
      | exact LeO.none _
      | refine LeO.ite ?_ ?_
      | refine LeO.bind ?_ (fun _ => ?_)
theorem spec_FewDigits.mono : ∀ a0 k, LeO (spec_FewDigits.f k a0) (spec_FewDigits.f (k + 1) a0) := by
  intro a0 k
  obtain ⟨ih0, ih1⟩ := spec_FewDigits.mono_l k
  unfold spec_FewDigits.f
  repeat' first
      | (with_reducible exact ih0 _ _ _ _)
      | (with_reducible exact ih1 _ _ _ _ _)
      | (with_reducible exact LeO.refl _)
      | (with_reducible exact LeO.none _)
      | (with_reducible refine LeO.ite ?_ ?_)
      | (with_reducible refine LeO.bind ?_ (fun _ => ?_))
      | exact ih0 _ _ _ _
      | exact ih1 _ _ _ _ _
      | exact LeO.none _
      | refine LeO.ite ?_ ?_
      | refine LeO.bind ?_ (fun _ => ?_)
set_option maxHeartbeats 8000000 in
set_option maxRecDepth 100000 in
theorem spec_FewDigits.calls (k : Nat) (A0 : Option Addr) (c0 : Nat) (l0 : List Int) (r : Bool) (w : World) (hr0 : Kd.C (Kd.int .u8) w A0 l0.length l0) (hc0 : l0.length ≤ c0) (h : spec_FewDigits.f k l0 = some r) :
    Calls Try.prog 8 #[.slice A0 l0.length c0] w fun e w' => e = .returned (.bool r) ∧ Drawn0 w w' := by
  have HR0 := Aside0.mk hr0
  have HC0 := Aside0.mk hc0
  clear hr0 hc0
  have H : (spec_FewDigits.l0 k 0 l0 (l0.length : Int) 0) = some r := h
  clear h
  have H' := Aside0.mk H
  clear H
  go_enter Try.func8, Try.ntmps8
  go_wp2
  go_loopg [3, 8] k (fun kq v3 v8 w' => ∃ (x3_1 : Int) (x8_1 : Int), v3 = .int .i64 x3_1 ∧ v8 = .int .i64 x8_1 ∧ Aside0 (spec_FewDigits.l0 kq x3_1 l0 (l0.length : Int) x8_1 = some r) ∧ Aside0 (kq ≤ k) ∧ Drawn0 w w')
  case atStart => exact ⟨(0), (0), (by first | rfl | (simp; done) | (simp [*]; done)), (by first | rfl | (simp; done) | (simp [*]; done)), H', ⟨Nat.le_refl _⟩, by repeat (first | exact Drawn0.refl _ | apply Drawn0.step)⟩
  case round =>
    clear H'
    obtain ⟨x3_1, x8_1, rfl, rfl, HA, HK1, ⟨m1, rfl⟩⟩ := hrel
    cases gk with
    | zero => exact absurd HA.out (by simp [spec_FewDigits.l0])
    | succ k1 =>
      have H := HA.out
      clear HA
      simp only [spec_FewDigits.l0] at H
      by_cases c2 : x8_1 < (l0.length : Int)
      · rw [if_pos c2] at H
        have c2b0 : decide (x8_1 < (l0.length : Int)) = true := decide_eq_true c2
        clear c2
        by_cases c3 : 0 ≤ x8_1
        · rw [if_pos c3] at H
          have c3b0 : decide (0 ≤ x8_1) = true := decide_eq_true c3
          clear c3
          by_cases c4 : x8_1 < (l0.length : Int)
          · rw [if_pos c4] at H
            have c4b0 : decide (x8_1 < (l0.length : Int)) = true := decide_eq_true c4
            clear c4
            have HC5 := Aside0.mk H
            clear H
            have p101 : 0 ≤ (x8_1 : Int) := of_decide_eq_true (by first | (with_reducible assumption) | assumption)
            have q101 : x8_1 < (l0.length : Int) := of_decide_eq_true (by first | (with_reducible assumption) | assumption)
            obtain ⟨ad101, e101, hx101_0⟩ := Kd.at_int HR0.out x8_1 p101 q101
            cases e101
            replace p101 := eq_true p101
            replace q101 := eq_true q101
            go_upto_region 5 with (fail)
            go_cut [17] (fun v17 wc => ∃ (kq : Nat) (x17_4 : Bool), v17 = .bool x17_4 ∧ Aside0 (spec_FewDigits.j1 kq x3_1 l0 (l0.length : Int) x8_1 x17_4 = some r) ∧ Aside0 (kq ≤ k1) ∧ Drawn0 w wc)
            case first =>
              have H := HC5.out
              clear HC5
              by_cases c6 : (rd l0 x8_1) < 48
              · rw [if_pos c6] at H
                have c6b0 : decide ((rd l0 x8_1) < 48) = true := decide_eq_true c6
                clear c6
                (first | rw [c6b0] | (simp only [i64_w, i32_w]; rw [c6b0]) | skip)
                have H' := Aside0.mk H
                clear H
                go_wp2
                go_meet
                case rel => exact ⟨_, (true), (by first | rfl | (simp; done) | (simp [*]; done)), H', ⟨by have := HK1.out; first | omega | exact Nat.le_refl _⟩, by repeat (first | exact Drawn0.refl _ | apply Drawn0.step)⟩
              · rw [if_neg c6] at H
                have c6b0 : decide ((rd l0 x8_1) < 48) = false := decide_eq_false c6
                clear c6
                (first | rw [c6b0] | (simp only [i64_w, i32_w]; rw [c6b0]) | skip)
                have H' := Aside0.mk H
                clear H
                go_wp2
                go_meet
                case rel => exact ⟨_, (decide ((rd l0 x8_1) > 57)), (by first | rfl | (simp; done) | (simp [*]; done)), H', ⟨by have := HK1.out; first | omega | exact Nat.le_refl _⟩, by repeat (first | exact Drawn0.refl _ | apply Drawn0.step)⟩
            case rest =>
              clear HC5
              try clear p1
              try clear q1
              try clear hx1
              try clear c2
              try clear c2b0
              try clear p2
              try clear c3
              try clear c3b0
              try clear c4
              try clear c4b0
              try clear c6
              try clear c6b0
              try clear hx101_0
              try clear p101
              try clear q101
              obtain ⟨kq, x17_4, rfl, HA, HJ4, ⟨mc4, rfl⟩⟩ := hcut
              cases kq with
              | zero => exact absurd HA.out (by simp [spec_FewDigits.j1])
              | succ kj4 =>
                have H := HA.out
                clear HA
                simp only [spec_FewDigits.j1] at H
                by_cases c7 : x17_4 = true
                · subst c7
                  have H1 : (spec_FewDigits.l0 kj4 0 l0 (l0.length : Int) (wrap64 (x8_1 + 1))) = some r := by rw [if_pos rfl] at H; exact H
                  clear H
                  have H := H1
                  clear H1
                  have H' := Aside0.mk H
                  clear H
                  go_wp2
                  go_roundg kj4
                  case measure => have := HK1.out; have := HJ4.out; omega
                  case rel => exact ⟨(0), (wrap64 (x8_1 + 1)), (by first | rfl | (simp; done) | (simp [*]; done)), (by first | rfl | (simp; done) | (simp [*]; done)), H', ⟨by have := HK1.out; have := HJ4.out; omega⟩, by repeat (first | exact Drawn0.refl _ | apply Drawn0.step)⟩
                · replace c7 := Bool.eq_false_iff.mpr c7
                  subst c7
                  have H1 : (if (wrap64 (x3_1 + 1)) > 17 then (some false) else (spec_FewDigits.l0 kj4 (wrap64 (x3_1 + 1)) l0 (l0.length : Int) (wrap64 (x8_1 + 1)))) = some r := by rw [if_neg (show ¬ (false = true) by decide)] at H; exact H
                  clear H
                  have H := H1
                  clear H1
                  by_cases c8 : (wrap64 (x3_1 + 1)) > 17
                  · rw [if_pos c8] at H
                    have c8b0 : decide (17 < (wrap64 (x3_1 + 1))) = true := decide_eq_true c8
                    clear c8
                    obtain rfl := Option.some.inj H
                    go_wp2
                    go_ret
                    exact ⟨by first | rfl | (simp; done) | (simp [*]; done), by repeat (first | exact Drawn0.refl _ | apply Drawn0.step)⟩
                  · rw [if_neg c8] at H
                    have c8b0 : decide (17 < (wrap64 (x3_1 + 1))) = false := decide_eq_false c8
                    clear c8
                    have H' := Aside0.mk H
                    clear H
                    go_wp2
                    go_roundg kj4
                    case measure => have := HK1.out; have := HJ4.out; omega
                    case rel => exact ⟨(wrap64 (x3_1 + 1)), (wrap64 (x8_1 + 1)), (by first | rfl | (simp; done) | (simp [*]; done)), (by first | rfl | (simp; done) | (simp [*]; done)), H', ⟨by have := HK1.out; have := HJ4.out; omega⟩, by repeat (first | exact Drawn0.refl _ | apply Drawn0.step)⟩
          · rw [if_neg c4] at H
            exact absurd H (by simp)
        · rw [if_neg c3] at H
          exact absurd H (by simp)
      · rw [if_neg c2] at H
        have c2b0 : decide (x8_1 < (l0.length : Int)) = false := decide_eq_false c2
        clear c2
        obtain rfl := Option.some.inj H
        go_wp2
        go_ret
        exact ⟨by first | rfl | (simp; done) | (simp [*]; done), by repeat (first | exact Drawn0.refl _ | apply Drawn0.step)⟩

/-! ### sixel_DecodeRepeat: function 16 -/
mutual
def sixel_DecodeRepeat.j0 : Nat → List Int → Int → Bool → Int → Int → Option (Int × Int × Int)
  | 0, _, _, _, _, _ => none
  | k + 1, x0, x3, x12, x103000, x103001 => if x12 = true then (some (x103000, x103001, x3)) else (if (x0.length : Int) < 3 then (some (x103000, x103001, x3)) else (sixel_DecodeRepeat.l0 k x0 1 x103000 x103001))
def sixel_DecodeRepeat.l0 : Nat → List Int → Int → Int → Int → Option (Int × Int × Int)
  | 0, _, _, _, _ => none
  | k + 1, x0, x3, x103000, x103001 => if x3 < (x0.length : Int) then (if 0 ≤ x3 then (if (rd x0 x3) ≥ 48 then (if (rd x0 x3) ≤ 57 then (sixel_DecodeRepeat.l0 k x0 (wrap64 (x3 + 1)) (wrap64 ((wrap64 (x103000 * 10)) + (((rd x0 x3) - 48) % 256))) x103001) else (some (x103000, rd x0 x3, wrap64 (x3 + 1)))) else (some (x103000, rd x0 x3, wrap64 (x3 + 1)))) else (none)) else (some (x103000, x103001, x3))
end
def sixel_DecodeRepeat.f (k : Nat) (l0 : List Int) : Option (Int × Int × Int) := if (l0.length : Int) = 0 then (sixel_DecodeRepeat.j0 k l0 0 true 0 0) else (if 0 < (l0.length : Int) then (sixel_DecodeRepeat.j0 k l0 0 ((rd l0 0) != 33) 0 0) else (none))
theorem sixel_DecodeRepeat.mono_l : ∀ k, (∀ y0 y1 y2 y3 y4, LeO (sixel_DecodeRepeat.j0 k y0 y1 y2 y3 y4) (sixel_DecodeRepeat.j0 (k + 1) y0 y1 y2 y3 y4)) ∧ (∀ y0 y1 y2 y3, LeO (sixel_DecodeRepeat.l0 k y0 y1 y2 y3) (sixel_DecodeRepeat.l0 (k + 1) y0 y1 y2 y3))
  | 0 => ⟨fun _ _ _ _ _ r h => by simp [sixel_DecodeRepeat.j0] at h, fun _ _ _ _ r h => by simp [sixel_DecodeRepeat.l0] at h⟩
  | k + 1 => by
    obtain ⟨ih0, ih1⟩ := sixel_DecodeRepeat.mono_l k
    refine ⟨?_, ?_⟩
    · intro y0 y1 y2 y3 y4
      unfold sixel_DecodeRepeat.j0
      repeat' first
      | (with_reducible exact ih0 _ _ _ _ _)
      | (with_reducible exact ih1 _ _ _ _)
      | (with_reducible exact LeO.refl _)
      | (with_reducible exact LeO.none _)
      | (with_reducible refine LeO.ite ?_ ?_)
      | (with_reducible refine LeO.bind ?_ (fun _ => ?_))
      | exact ih0 _ _ _ _ _
      | exact ih1 _ _ _ _
      | exact LeO.none _
      | refine LeO.ite ?_ ?_
      | refine LeO.bind ?_ (fun _ => ?_)
    · intro y0 y1 y2 y3
      unfold sixel_DecodeRepeat.l0
      repeat' first
      | (with_reducible exact ih0 _ _ _ _ _)
      | (with_reducible exact ih1 _ _ _ _)
      | (with_reducible exact LeO.refl _)
      | (with_reducible exact LeO.none _)
      | (with_reducible refine LeO.ite ?_ ?_)
      | (with_reducible refine LeO.bind ?_ (fun _ => ?_))
      | exact ih0 _ _ _ _ _
      | exact ih1 _ _ _ _
      | exact LeO.none _
      | refine LeO.ite ?_ ?_
      | refine LeO.bind ?_ (fun _ => ?_)
theorem sixel_DecodeRepeat.mono : ∀ a0 k, LeO (sixel_DecodeRepeat.f k a0) (sixel_DecodeRepeat.f (k + 1) a0) := by
  intro a0 k
  obtain ⟨ih0, ih1⟩ := sixel_DecodeRepeat.mono_l k
  unfold sixel_DecodeRepeat.f
  repeat' first
      | (with_reducible exact ih0 _ _ _ _ _)
      | (with_reducible exact ih1 _ _ _ _)
      | (with_reducible exact LeO.refl _)
      | (with_reducible exact LeO.none _)
      | (with_reducible refine LeO.ite ?_ ?_)
      | (with_reducible refine LeO.bind ?_ (fun _ => ?_))
      | exact ih0 _ _ _ _ _
      | exact ih1 _ _ _ _
      | exact LeO.none _
      | refine LeO.ite ?_ ?_
      | refine LeO.bind ?_ (fun _ => ?_)
def sixel_DecodeRepeat.T9 : Bool × List (List Nat × List Nat) := (true, [([], []), ([0], [0]), ([1], [1]), ([], []), ([], []), ([3, 4], [3, 4]), ([5], [5]), ([6], [6]), ([7], [7]), ([2, 8], [2, 8]), ([0, 1, 2, 3, 4, 5, 6, 7, 8, 9], []), ([10, 9, 0, 1, 2, 3, 4, 5, 6, 7, 8, 9], [9, 10])])
def sixel_DecodeRepeat.B9 : List Nat := [0, 1, 3, 0, 0, 24, 56, 120, 248, 511, 1023, 2047]
theorem sixel_DecodeRepeat.tab9 : rtab .any (opsOf Try.f16 9) = sixel_DecodeRepeat.T9 := by kernel_rfl
theorem sixel_DecodeRepeat.bits9 : waitsOk sixel_DecodeRepeat.T9.2 sixel_DecodeRepeat.B9 = true := by kernel_rfl
set_option maxHeartbeats 8000000 in
set_option maxRecDepth 100000 in
theorem sixel_DecodeRepeat.calls (k : Nat) (A0 : Option Addr) (c0 : Nat) (l0 : List Int) (r1 : Int) (r2 : Int) (r3 : Int) (w : World) (hr0 : Kd.C (Kd.int .u8) w A0 l0.length l0) (hc0 : l0.length ≤ c0) (h : sixel_DecodeRepeat.f k l0 = some (r1, r2, r3)) :
    Calls Try.prog 16 #[.slice A0 l0.length c0] w fun e w' => e = .returned (.tuple #[.agg #[.int .i64 r1, .int .u8 r2], .int .i64 r3]) ∧ Below w.heap.size w w' := by
  have hu46 := Try.underlying46
  have HR0 := Aside0.mk hr0
  have HC0 := Aside0.mk hc0
  clear hr0 hc0
  have HB := Aside0.mk (Below.refl w.heap.size w)
  have H : (if (l0.length : Int) = 0 then (sixel_DecodeRepeat.j0 k l0 0 true 0 0) else (if 0 < (l0.length : Int) then (sixel_DecodeRepeat.j0 k l0 0 ((rd l0 0) != 33) 0 0) else (none))) = some (r1, r2, r3) := h
  clear h
  have HC2 := Aside0.mk H
  clear H
  go_enter Try.func16, Try.ntmps16
  go_upto_region 1 with (first | ((with_reducible refine gate_dst (N := 2) rfl ?_); refine box_event ?hg (N := 2) ?hd (cs := #[.int .i64 0, .int .u8 0]) (t := 46) ?hr ?_; (case hd => rfl); (case hg => rfl); (case hr => first | (go_simp; done) | (go_simp; rfl)); intro gb102 hg w3 hbox hb; have n0_ := Aside0.mk (below_step (by repeat (first | (with_reducible first | exact HB.out | apply below_alloc | apply Go.Proofs.Ytjicpadeplminaa.Ext.below_bytes | apply pw_below_drewN | apply below_drew1) | exact HB.out)) hb); have n1_ := Aside0.mk (hbox); have n2_ := Aside0.mk ((by rw [hg]; exact (below_size (by repeat (first | (with_reducible first | exact HB.out | apply below_alloc | apply Go.Proofs.Ytjicpadeplminaa.Ext.below_bytes | apply pw_below_drewN | apply below_drew1) | exact HB.out))) : w.heap.size ≤ gb102)); have n3_ := Aside0.mk ((by rw [hg]; exact (below_size (by repeat (first | (with_reducible first | exact HB.out | apply below_alloc | apply Go.Proofs.Ytjicpadeplminaa.Ext.below_bytes | apply pw_below_drewN | apply below_drew1) | exact HB.out))) : w.heap.size ≤ gb102)); clear HB; have HB := n0_; have BK102 := n1_; have GW102 := n2_; have GE102 := n3_; clear n0_ n1_ n2_ n3_; clear hb hbox hg))
  (try simp only [Act.put, List.setIfInBounds_toArray, List.set_cons_zero, List.set_cons_succ])
  go_cut [12] (fun v12 wc => ∃ (kq : Nat) (x12_1 : Bool), v12 = .bool x12_1 ∧ Aside0 (sixel_DecodeRepeat.j0 kq l0 0 x12_1 0 0 = some (r1, r2, r3)) ∧ Aside0 (kq ≤ k) ∧ Aside0 (wc.heap[gb102]? = some (.cells #[.int .i64 0, .int .u8 0] 46 (0, 0))) ∧ Aside0 (Below w.heap.size w wc))
  case first =>
    have H := HC2.out
    clear HC2
    by_cases c4 : (l0.length : Int) = 0
    · rw [if_pos c4] at H
      have c4b0 : ((l0.length : Int) == 0) = true := beq_iff_eq.mpr c4
      have c4b1 : ((l0.length : Int) != 0) = false := bne_eq_false_iff_eq.mpr c4
      clear c4
      (first | rw [c4b0] | (simp only [i64_w, i32_w]; rw [c4b0]) | skip)
      have H' := Aside0.mk H
      clear H
      go_wp2
      go_meet
      case rel => exact ⟨_, (true), (by first | rfl | (simp; done) | (simp [*]; done)), H', ⟨by first | omega | exact Nat.le_refl _⟩, ⟨by (with_reducible repeat (first | refine blk_drewN ?_ _ | refine blk_drew ?_ | refine blk_alloc ?_ _)); exact BK102.out⟩, ⟨by repeat (first | (with_reducible first | exact HB.out | apply below_alloc | apply Go.Proofs.Ytjicpadeplminaa.Ext.below_bytes | apply pw_below_drewN | apply below_drew1 | refine below_set ?_ GE102.out) | exact HB.out)⟩⟩
    · rw [if_neg c4] at H
      have c4b0 : ((l0.length : Int) == 0) = false := beq_eq_false_iff_ne.mpr c4
      have c4b1 : ((l0.length : Int) != 0) = true := bne_iff_ne.mpr c4
      have c4b2 : ¬ (l0 = []) := fun h_ => c4 (by rw [h_]; rfl)
      (first | rw [c4b0] | (simp only [i64_w, i32_w]; rw [c4b0]) | skip)
      by_cases c5 : 0 < (l0.length : Int)
      · rw [if_pos c5] at H
        have c5b0 : decide (0 < (l0.length : Int)) = true := decide_eq_true c5
        have c5b1 : decide (0 < l0.length) = true := decide_eq_true (by omega)
        clear c5
        have H' := Aside0.mk H
        clear H
        have p103 : 0 ≤ (0 : Int) := (by omega)
        have q103 : 0 < (l0.length : Int) := of_decide_eq_true (by first | (with_reducible assumption) | assumption)
        obtain ⟨ad103, e103, hx103_0⟩ := Kd.at_int HR0.out 0 p103 q103
        cases e103
        have qi103 : (0 < l0.length) = True := eq_true (by omega)
        (try rw [show ((0 : Int)).toNat = 0 from rfl] at hx103_0)
        (try rw [Addr.add_zero'] at hx103_0)
        replace hx103_0 := (HB.out.cell (World.block_lt_of_cell? w _ hx103_0)).trans hx103_0
        replace p103 := eq_true p103
        replace q103 := eq_true q103
        go_wp2
        go_meet
        case rel => exact ⟨_, (((rd l0 0) != 33)), (by first | rfl | (simp; done) | (simp [*]; done)), H', ⟨by first | omega | exact Nat.le_refl _⟩, ⟨by (with_reducible repeat (first | refine blk_drewN ?_ _ | refine blk_drew ?_ | refine blk_alloc ?_ _)); exact BK102.out⟩, ⟨by repeat (first | (with_reducible first | exact HB.out | apply below_alloc | apply Go.Proofs.Ytjicpadeplminaa.Ext.below_bytes | apply pw_below_drewN | apply below_drew1 | refine below_set ?_ GE102.out) | exact HB.out)⟩⟩
      · rw [if_neg c5] at H
        exact absurd H (by simp)
  case rest =>
    clear HC2
    try clear c1
    try clear p1
    try clear q1
    try clear hx1
    try clear qi1
    try clear p2
    try clear c4
    try clear c4b0
    try clear c4b1
    try clear c4b2
    try clear c5
    try clear c5b0
    try clear c5b1
    try clear hx103_0
    try clear p103
    try clear q103
    obtain ⟨kq, x12_1, rfl, HA, HJ1, BK102, HB⟩ := hcut
    cases kq with
    | zero => exact absurd HA.out (by simp [sixel_DecodeRepeat.j0])
    | succ kj1 =>
      have H := HA.out
      clear HA
      simp only [sixel_DecodeRepeat.j0] at H
      by_cases c6 : x12_1 = true
      · subst c6
        have H1 : (some (0, 0, 0)) = some (r1, r2, r3) := by rw [if_pos rfl] at H; exact H
        clear H
        have H := H1
        clear H1
        simp only [Option.some.injEq, Prod.mk.injEq] at H
        obtain ⟨rfl, rfl, rfl⟩ := H
        have hcz7_0 : wc.cell? ⟨gb102, 0, none⟩ = some (.int .i64 0) := (blk_cell BK102.out 0).trans rfl
        have hcz7_1 : wc.cell? ⟨gb102, 1, none⟩ = some (.int .u8 0) := (blk_cell BK102.out 1).trans rfl
        have hfz7_0 := blk_frozen BK102.out 0
        have hfz7_1 := blk_frozen BK102.out 1
        go_wp2
        refine bodyPost_ret (results_ct rfl _ _ gb102 46 #[.int .i64 0, .int .u8 0] (0, 0) _ rfl (by (with_reducible repeat (first | refine blk_drewN ?_ _ | refine blk_drew ?_ | refine blk_alloc ?_ _)); refine blk_put (cs := #[.int .i64 0, .int .u8 0]) ?_ 1 _ rfl; (with_reducible repeat (first | refine blk_drewN ?_ _ | refine blk_drew ?_ | refine blk_alloc ?_ _)); refine blk_put (cs := #[.int .i64 0, .int .u8 0]) ?_ 0 _ rfl; (with_reducible repeat (first | refine blk_drewN ?_ _ | refine blk_drew ?_ | refine blk_alloc ?_ _)); exact BK102.out) Try.underlying46 rfl (by kernel_rfl)) rfl ?_
        exact ⟨by first | rfl | (simp [errW_none, errW_some] <;> rfl) | (simp [*, errW_none, errW_some] <;> rfl), by repeat (first | (with_reducible first | exact HB.out | apply below_alloc | apply Go.Proofs.Ytjicpadeplminaa.Ext.below_bytes | apply pw_below_drewN | apply below_drew1 | refine below_set ?_ GE102.out) | exact HB.out)⟩
      · replace c6 := Bool.eq_false_iff.mpr c6
        subst c6
        have H1 : (if (l0.length : Int) < 3 then (some (0, 0, 0)) else (sixel_DecodeRepeat.l0 kj1 l0 1 0 0)) = some (r1, r2, r3) := by rw [if_neg (show ¬ (false = true) by decide)] at H; exact H
        clear H
        have H := H1
        clear H1
        by_cases c8 : (l0.length : Int) < 3
        · rw [if_pos c8] at H
          have c8b0 : decide ((l0.length : Int) < 3) = true := decide_eq_true c8
          have c8b1 : decide (l0.length < 3) = true := decide_eq_true (by omega)
          clear c8
          simp only [Option.some.injEq, Prod.mk.injEq] at H
          obtain ⟨rfl, rfl, rfl⟩ := H
          have hcz9_0 : wc.cell? ⟨gb102, 0, none⟩ = some (.int .i64 0) := (blk_cell BK102.out 0).trans rfl
          have hcz9_1 : wc.cell? ⟨gb102, 1, none⟩ = some (.int .u8 0) := (blk_cell BK102.out 1).trans rfl
          have hfz9_0 := blk_frozen BK102.out 0
          have hfz9_1 := blk_frozen BK102.out 1
          go_wp2
          refine bodyPost_ret (results_ct rfl _ _ gb102 46 #[.int .i64 0, .int .u8 0] (0, 0) _ rfl (by (with_reducible repeat (first | refine blk_drewN ?_ _ | refine blk_drew ?_ | refine blk_alloc ?_ _)); refine blk_put (cs := #[.int .i64 0, .int .u8 0]) ?_ 1 _ rfl; (with_reducible repeat (first | refine blk_drewN ?_ _ | refine blk_drew ?_ | refine blk_alloc ?_ _)); refine blk_put (cs := #[.int .i64 0, .int .u8 0]) ?_ 0 _ rfl; (with_reducible repeat (first | refine blk_drewN ?_ _ | refine blk_drew ?_ | refine blk_alloc ?_ _)); exact BK102.out) Try.underlying46 rfl (by kernel_rfl)) rfl ?_
          exact ⟨by first | rfl | (simp [errW_none, errW_some] <;> rfl) | (simp [*, errW_none, errW_some] <;> rfl), by repeat (first | (with_reducible first | exact HB.out | apply below_alloc | apply Go.Proofs.Ytjicpadeplminaa.Ext.below_bytes | apply pw_below_drewN | apply below_drew1 | refine below_set ?_ GE102.out) | exact HB.out)⟩
        · rw [if_neg c8] at H
          have c8b0 : decide ((l0.length : Int) < 3) = false := decide_eq_false c8
          have c8b1 : decide (l0.length < 3) = false := decide_eq_false (by omega)
          clear c8
          have H' := Aside0.mk H
          clear H
          go_wp2
          go_loopg [3] kj1 (fun kq v3 w' => ∃ (x3_2 : Int) (x103000_2 : Int) (x103001_2 : Int), v3 = .int .i64 x3_2 ∧ Aside0 (sixel_DecodeRepeat.l0 kq l0 x3_2 x103000_2 x103001_2 = some (r1, r2, r3)) ∧ Aside0 (kq ≤ kj1) ∧ Aside0 (w'.heap[gb102]? = some (.cells #[.int .i64 x103000_2, .int .u8 x103001_2] 46 (0, 0))) ∧ Aside0 (Below w.heap.size w w'))
          case atStart => exact ⟨(1), (0), (0), (by first | rfl | (simp; done) | (simp [*]; done)), H', ⟨Nat.le_refl _⟩, ⟨by (with_reducible repeat (first | refine blk_drewN ?_ _ | refine blk_drew ?_ | refine blk_alloc ?_ _)); exact BK102.out⟩, ⟨by repeat (first | (with_reducible first | exact HB.out | apply below_alloc | apply Go.Proofs.Ytjicpadeplminaa.Ext.below_bytes | apply pw_below_drewN | apply below_drew1 | refine below_set ?_ GE102.out) | exact HB.out)⟩⟩
          case round =>
            clear H'
            try clear c1
            try clear p1
            try clear q1
            try clear hx1
            try clear qi1
            try clear p2
            try clear c4
            try clear c4b0
            try clear c4b1
            try clear c4b2
            try clear c5
            try clear c5b0
            try clear c5b1
            try clear c6
            try clear c8
            try clear c8b0
            try clear c8b1
            try clear hcz7_0
            try clear hcz7_1
            try clear hcz9_0
            try clear hcz9_1
            try clear hfz7_0
            try clear hfz7_1
            try clear hfz9_0
            try clear hfz9_1
            try clear hx103_0
            try clear p1
            try clear p103
            try clear p2
            try clear q1
            try clear q103
            obtain ⟨x3_2, x103000_2, x103001_2, rfl, HA, HK2, BK102, HB⟩ := hrel
            cases gk with
            | zero => exact absurd HA.out (by simp [sixel_DecodeRepeat.l0])
            | succ k2 =>
              have H := HA.out
              clear HA
              simp only [sixel_DecodeRepeat.l0] at H
              by_cases c10 : x3_2 < (l0.length : Int)
              · rw [if_pos c10] at H
                have c10b0 : decide (x3_2 < (l0.length : Int)) = true := decide_eq_true c10
                clear c10
                by_cases c11 : 0 ≤ x3_2
                · rw [if_pos c11] at H
                  have c11b0 : decide (0 ≤ x3_2) = true := decide_eq_true c11
                  clear c11
                  by_cases c12 : (rd l0 x3_2) ≥ 48
                  · rw [if_pos c12] at H
                    have c12b0 : decide (48 ≤ (rd l0 x3_2)) = true := decide_eq_true c12
                    clear c12
                    by_cases c13 : (rd l0 x3_2) ≤ 57
                    · rw [if_pos c13] at H
                      have c13b0 : decide ((rd l0 x3_2) ≤ 57) = true := decide_eq_true c13
                      clear c13
                      have H' := Aside0.mk H
                      clear H
                      have p104 : 0 ≤ (x3_2 : Int) := of_decide_eq_true (by first | (with_reducible assumption) | assumption)
                      have q104 : x3_2 < (l0.length : Int) := of_decide_eq_true (by first | (with_reducible assumption) | assumption)
                      obtain ⟨ad104, e104, hx104_0⟩ := Kd.at_int HR0.out x3_2 p104 q104
                      cases e104
                      replace hx104_0 := (HB.out.cell (World.block_lt_of_cell? w _ hx104_0)).trans hx104_0
                      replace p104 := eq_true p104
                      replace q104 := eq_true q104
                      have p105 : 0 ≤ (x3_2 : Int) := of_decide_eq_true (by first | (with_reducible assumption) | assumption)
                      have q105 : x3_2 < (l0.length : Int) := of_decide_eq_true (by first | (with_reducible assumption) | assumption)
                      obtain ⟨ad105, e105, hx105_0⟩ := Kd.at_int HR0.out x3_2 p105 q105
                      obtain rfl : ad104 = ad105 := (by injection e105)
                      replace hx105_0 := (HB.out.cell (World.block_lt_of_cell? w _ hx105_0)).trans hx105_0
                      replace p105 := eq_true p105
                      replace q105 := eq_true q105
                      try go_wp2
                      have n0_ := Aside0.mk (blk_drew BK102.out)
                      have n1_ := Aside0.mk (below_drew1 HB.out)
                      clear BK102
                      clear HB
                      have BK102 := n0_
                      have HB := n1_
                      clear n0_ n1_
                      have p106 : 0 ≤ (x3_2 : Int) := of_decide_eq_true (by first | (with_reducible assumption) | assumption)
                      have q106 : x3_2 < (l0.length : Int) := of_decide_eq_true (by first | (with_reducible assumption) | assumption)
                      obtain ⟨ad106, e106, hx106_0⟩ := Kd.at_int HR0.out x3_2 p106 q106
                      have hw106_0 := hx106_0
                      obtain rfl : ad104 = ad106 := (by injection e106)
                      replace hx106_0 := (HB.out.cell (World.block_lt_of_cell? w _ hx106_0)).trans hx106_0
                      replace p106 := eq_true p106
                      replace q106 := eq_true q106
                      refine start_ (n := 12) (S := fun w' => w'.cell? ⟨gb102, 0, none⟩ = some (.int .i64 x103000_2) ∧ w'.cell? ⟨gb102, 1, none⟩ = some (.int .u8 x103001_2) ∧ w'.cell? (ad104.add (x3_2).toNat) = some (.int .u8 (rd l0 x3_2))) (ds := [11]) #[false, false, false, false, false, false, false, false, false, false, false, false] (by kernel_rfl) rfl rfl ⟨(blk_cell BK102.out 0).trans rfl, (blk_cell BK102.out 1).trans rfl, ((HB.out.cell (World.block_lt_of_cell? w _ hw106_0)).trans hw106_0)⟩ (fun hHeld => ?_); refine with_tabW sixel_DecodeRepeat.tab9 sixel_DecodeRepeat.bits9 (fun HT_ HW_ => ?_)
                      generalize wr.drew = w14 at BK102 HB hx106_0 hHeld ⊢
                      refine pure_ (i := 0) (N := some 38) (v := ?_) (a' := ?_) #[true, false, false, false, false, false, false, false, false, false, false, false] rfl rfl (any_of HT_.out (by kernel_rfl)) (fun _ _ _ h => h) (Or.inl ⟨by rfl, ?_⟩) ?_ ?_
                      rotate_left
                      · intro w'
                        go_simp
                        with_reducible rfl
                      rotate_left
                      · simp only [Act.put, List.setIfInBounds_toArray, List.set_cons_zero, List.set_cons_succ, i64_w, i32_w]
                        rfl
                      refine pure_ (i := 3) (N := some 41) (v := ?_) (a' := ?_) #[true, false, false, true, false, false, false, false, false, false, false, false] rfl rfl (any_of HT_.out (by kernel_rfl)) (fun _ _ _ h => h) (Or.inl ⟨by rfl, ?_⟩) ?_ ?_
                      rotate_left
                      · intro w'
                        go_simp
                        with_reducible rfl
                      rotate_left
                      · simp only [Act.put, List.setIfInBounds_toArray, List.set_cons_zero, List.set_cons_succ, i64_w, i32_w]
                        rfl
                      refine pure_ (i := 4) (N := some 42) (v := ?_) (a' := ?_) #[true, false, false, true, true, false, false, false, false, false, false, false] rfl rfl (any_of HT_.out (by kernel_rfl)) (fun _ _ _ h => h) (Or.inl ⟨by rfl, ?_⟩) ?_ ?_
                      rotate_left
                      · intro w'
                        go_simp
                        with_reducible rfl
                      rotate_left
                      · simp only [Act.put, List.setIfInBounds_toArray, List.set_cons_zero, List.set_cons_succ, i64_w, i32_w]
                        rfl
                      refine pure_ (i := 5) (N := some 43) (v := ?_) (a' := ?_) #[true, false, false, true, true, true, false, false, false, false, false, false] rfl rfl (any_of HT_.out (by kernel_rfl)) (fun _ _ _ h => h) (Or.inl ⟨by rfl, ?_⟩) ?_ ?_
                      rotate_left
                      · intro w'
                        go_simp
                        with_reducible rfl
                      rotate_left
                      · simp only [Act.put, List.setIfInBounds_toArray, List.set_cons_zero, List.set_cons_succ, i64_w, i32_w]
                        rfl
                      refine take_ (i := 1) (N := some 39) (v := ?_) (a' := ?_) #[true, true, false, true, true, true, false, false, false, false, false, false] rfl rfl (take_ofW HT_.out HW_.out (by kernel_rfl)) (fun _ _ _ h => h) (Or.inl ⟨by rfl, ?_⟩) hHeld ?_ ?_
                      rotate_left
                      · rintro w' ⟨s0, s1, s2⟩
                        go_simp
                        with_reducible rfl
                      rotate_left
                      · simp only [Act.put, List.setIfInBounds_toArray, List.set_cons_zero, List.set_cons_succ, i64_w, i32_w]
                        rfl
                      refine pure_ (i := 2) (N := some 40) (v := ?_) (a' := ?_) #[true, true, true, true, true, true, false, false, false, false, false, false] rfl rfl (any_of HT_.out (by kernel_rfl)) (fun _ _ _ h => h) (Or.inl ⟨by rfl, ?_⟩) ?_ ?_
                      rotate_left
                      · intro w'
                        go_simp
                        with_reducible rfl
                      rotate_left
                      · simp only [Act.put, List.setIfInBounds_toArray, List.set_cons_zero, List.set_cons_succ, i64_w, i32_w]
                        rfl
                      refine take_ (i := 6) (N := some 44) (v := ?_) (a' := ?_) #[true, true, true, true, true, true, true, false, false, false, false, false] rfl rfl (take_ofW HT_.out HW_.out (by kernel_rfl)) (fun _ _ _ h => h) (Or.inl ⟨by rfl, ?_⟩) hHeld ?_ ?_
                      rotate_left
                      · rintro w' ⟨s0, s1, s2⟩
                        go_simp
                        with_reducible rfl
                      rotate_left
                      · simp only [Act.put, List.setIfInBounds_toArray, List.set_cons_zero, List.set_cons_succ, i64_w, i32_w]
                        rfl
                      refine pure_ (i := 7) (N := some 45) (v := ?_) (a' := ?_) #[true, true, true, true, true, true, true, true, false, false, false, false] rfl rfl (any_of HT_.out (by kernel_rfl)) (fun _ _ _ h => h) (Or.inl ⟨by rfl, ?_⟩) ?_ ?_
                      rotate_left
                      · intro w'
                        go_simp
                        with_reducible rfl
                      rotate_left
                      · simp only [Act.put, List.setIfInBounds_toArray, List.set_cons_zero, List.set_cons_succ, i64_w, i32_w]
                        rfl
                      refine pure_ (i := 8) (N := some 46) (v := ?_) (a' := ?_) #[true, true, true, true, true, true, true, true, true, false, false, false] rfl rfl (any_of HT_.out (by kernel_rfl)) (fun _ _ _ h => h) (Or.inl ⟨by rfl, ?_⟩) ?_ ?_
                      rotate_left
                      · intro w'
                        go_simp
                        with_reducible rfl
                      rotate_left
                      · simp only [Act.put, List.setIfInBounds_toArray, List.set_cons_zero, List.set_cons_succ, i64_w, i32_w]
                        rfl
                      refine pure_ (i := 9) (N := some 47) (v := ?_) (a' := ?_) #[true, true, true, true, true, true, true, true, true, true, false, false] rfl rfl (any_of HT_.out (by kernel_rfl)) (fun _ _ _ h => h) (Or.inl ⟨by rfl, ?_⟩) ?_ ?_
                      rotate_left
                      · intro w'
                        go_simp
                        with_reducible rfl
                      rotate_left
                      · simp only [Act.put, List.setIfInBounds_toArray, List.set_cons_zero, List.set_cons_succ, i64_w, i32_w]
                        rfl
                      refine pure_ (i := 10) (N := some 48) (v := ?_) (a' := ?_) #[true, true, true, true, true, true, true, true, true, true, true, false] rfl rfl (any_of HT_.out (by kernel_rfl)) (fun _ _ _ h => h) (Or.inl ⟨by rfl, ?_⟩) ?_ ?_
                      rotate_left
                      · intro w'
                        go_simp
                        with_reducible rfl
                      rotate_left
                      · simp only [Act.put, List.setIfInBounds_toArray, List.set_cons_zero, List.set_cons_succ, i64_w, i32_w]
                        rfl
                      refine last_ (i := 11) (N := none) #[true, true, true, true, true, true, true, true, true, true, true, true] rfl rfl (one_of HT_.out (by kernel_rfl)) (by decide) (fun K hK => ?_)
                      have hs15 : w14.cell? ⟨gb102, 0, none⟩ = some (.int .i64 x103000_2) := (blk_cell BK102.out 0).trans rfl
                      have hfs15 := blk_frozen BK102.out 0
                      refine skip_ (w1 := ?_) (by rfl) rfl ?_ ?_
                      rotate_left
                      · go_simp
                        rfl
                      refine hK.out _ _ ?_
                      clear hK K
                      refine done_ (done_of HT_.out (by kernel_rfl)) ?_
                      try go_wp2
                      go_roundg k2
                      case measure => have := HJ1.out; have := HK2.out; omega
                      case rel => exact ⟨(wrap64 (x3_2 + 1)), (wrap64 ((wrap64 (x103000_2 * 10)) + (((rd l0 x3_2) - 48) % 256))), (x103001_2), (by first | rfl | (simp; done) | (simp [*]; done)), H', ⟨by have := HJ1.out; have := HK2.out; omega⟩, ⟨by (with_reducible repeat (first | refine blk_drewN ?_ _ | refine blk_drew ?_ | refine blk_alloc ?_ _)); refine blk_put (cs := #[.int .i64 x103000_2, .int .u8 x103001_2]) ?_ 0 _ rfl; (with_reducible repeat (first | refine blk_drewN ?_ _ | refine blk_drew ?_ | refine blk_alloc ?_ _)); exact BK102.out⟩, ⟨by repeat (first | (with_reducible first | exact HB.out | apply below_alloc | apply Go.Proofs.Ytjicpadeplminaa.Ext.below_bytes | apply pw_below_drewN | apply below_drew1 | refine below_set ?_ GE102.out) | exact HB.out)⟩⟩
                    · rw [if_neg c13] at H
                      have c13b0 : decide ((rd l0 x3_2) ≤ 57) = false := decide_eq_false c13
                      clear c13
                      simp only [Option.some.injEq, Prod.mk.injEq] at H
                      obtain ⟨rfl, rfl, rfl⟩ := H
                      have p104 : 0 ≤ (x3_2 : Int) := of_decide_eq_true (by first | (with_reducible assumption) | assumption)
                      have q104 : x3_2 < (l0.length : Int) := of_decide_eq_true (by first | (with_reducible assumption) | assumption)
                      obtain ⟨ad104, e104, hx104_0⟩ := Kd.at_int HR0.out x3_2 p104 q104
                      cases e104
                      replace hx104_0 := (HB.out.cell (World.block_lt_of_cell? w _ hx104_0)).trans hx104_0
                      replace p104 := eq_true p104
                      replace q104 := eq_true q104
                      have p105 : 0 ≤ (x3_2 : Int) := of_decide_eq_true (by first | (with_reducible assumption) | assumption)
                      have q105 : x3_2 < (l0.length : Int) := of_decide_eq_true (by first | (with_reducible assumption) | assumption)
                      obtain ⟨ad105, e105, hx105_0⟩ := Kd.at_int HR0.out x3_2 p105 q105
                      obtain rfl : ad104 = ad105 := (by injection e105)
                      replace hx105_0 := (HB.out.cell (World.block_lt_of_cell? w _ hx105_0)).trans hx105_0
                      replace p105 := eq_true p105
                      replace q105 := eq_true q105
                      have p107 : 0 ≤ (x3_2 : Int) := of_decide_eq_true (by first | (with_reducible assumption) | assumption)
                      have q107 : x3_2 < (l0.length : Int) := of_decide_eq_true (by first | (with_reducible assumption) | assumption)
                      obtain ⟨ad107, e107, hx107_0⟩ := Kd.at_int HR0.out x3_2 p107 q107
                      obtain rfl : ad104 = ad107 := (by injection e107)
                      replace hx107_0 := (HB.out.cell (World.block_lt_of_cell? w _ hx107_0)).trans hx107_0
                      replace p107 := eq_true p107
                      replace q107 := eq_true q107
                      have hcz16_0 : wr.cell? ⟨gb102, 0, none⟩ = some (.int .i64 x103000_2) := (blk_cell BK102.out 0).trans rfl
                      have hcz16_1 : wr.cell? ⟨gb102, 1, none⟩ = some (.int .u8 x103001_2) := (blk_cell BK102.out 1).trans rfl
                      have hfz16_0 := blk_frozen BK102.out 0
                      have hfz16_1 := blk_frozen BK102.out 1
                      go_wp2
                      refine bodyPost_ret (results_ct rfl _ _ gb102 46 #[.int .i64 x103000_2, .int .u8 (rd l0 x3_2)] (0, 0) _ rfl (by (with_reducible repeat (first | refine blk_drewN ?_ _ | refine blk_drew ?_ | refine blk_alloc ?_ _)); refine blk_put (cs := #[.int .i64 x103000_2, .int .u8 (rd l0 x3_2)]) ?_ 1 _ rfl; (with_reducible repeat (first | refine blk_drewN ?_ _ | refine blk_drew ?_ | refine blk_alloc ?_ _)); refine blk_put (cs := #[.int .i64 x103000_2, .int .u8 (rd l0 x3_2)]) ?_ 0 _ rfl; (with_reducible repeat (first | refine blk_drewN ?_ _ | refine blk_drew ?_ | refine blk_alloc ?_ _)); refine blk_put (cs := #[.int .i64 x103000_2, .int .u8 x103001_2]) ?_ 1 _ rfl; (with_reducible repeat (first | refine blk_drewN ?_ _ | refine blk_drew ?_ | refine blk_alloc ?_ _)); exact BK102.out) Try.underlying46 rfl (by kernel_rfl)) rfl ?_
                      exact ⟨by first | rfl | (simp [errW_none, errW_some] <;> rfl) | (simp [*, errW_none, errW_some] <;> rfl), by repeat (first | (with_reducible first | exact HB.out | apply below_alloc | apply Go.Proofs.Ytjicpadeplminaa.Ext.below_bytes | apply pw_below_drewN | apply below_drew1 | refine below_set ?_ GE102.out) | exact HB.out)⟩
                  · rw [if_neg c12] at H
                    have c12b0 : decide (48 ≤ (rd l0 x3_2)) = false := decide_eq_false c12
                    clear c12
                    simp only [Option.some.injEq, Prod.mk.injEq] at H
                    obtain ⟨rfl, rfl, rfl⟩ := H
                    have p104 : 0 ≤ (x3_2 : Int) := of_decide_eq_true (by first | (with_reducible assumption) | assumption)
                    have q104 : x3_2 < (l0.length : Int) := of_decide_eq_true (by first | (with_reducible assumption) | assumption)
                    obtain ⟨ad104, e104, hx104_0⟩ := Kd.at_int HR0.out x3_2 p104 q104
                    cases e104
                    replace hx104_0 := (HB.out.cell (World.block_lt_of_cell? w _ hx104_0)).trans hx104_0
                    replace p104 := eq_true p104
                    replace q104 := eq_true q104
                    have p108 : 0 ≤ (x3_2 : Int) := of_decide_eq_true (by first | (with_reducible assumption) | assumption)
                    have q108 : x3_2 < (l0.length : Int) := of_decide_eq_true (by first | (with_reducible assumption) | assumption)
                    obtain ⟨ad108, e108, hx108_0⟩ := Kd.at_int HR0.out x3_2 p108 q108
                    obtain rfl : ad104 = ad108 := (by injection e108)
                    replace hx108_0 := (HB.out.cell (World.block_lt_of_cell? w _ hx108_0)).trans hx108_0
                    replace p108 := eq_true p108
                    replace q108 := eq_true q108
                    have hcz17_0 : wr.cell? ⟨gb102, 0, none⟩ = some (.int .i64 x103000_2) := (blk_cell BK102.out 0).trans rfl
                    have hcz17_1 : wr.cell? ⟨gb102, 1, none⟩ = some (.int .u8 x103001_2) := (blk_cell BK102.out 1).trans rfl
                    have hfz17_0 := blk_frozen BK102.out 0
                    have hfz17_1 := blk_frozen BK102.out 1
                    go_wp2
                    refine bodyPost_ret (results_ct rfl _ _ gb102 46 #[.int .i64 x103000_2, .int .u8 (rd l0 x3_2)] (0, 0) _ rfl (by (with_reducible repeat (first | refine blk_drewN ?_ _ | refine blk_drew ?_ | refine blk_alloc ?_ _)); refine blk_put (cs := #[.int .i64 x103000_2, .int .u8 (rd l0 x3_2)]) ?_ 1 _ rfl; (with_reducible repeat (first | refine blk_drewN ?_ _ | refine blk_drew ?_ | refine blk_alloc ?_ _)); refine blk_put (cs := #[.int .i64 x103000_2, .int .u8 (rd l0 x3_2)]) ?_ 0 _ rfl; (with_reducible repeat (first | refine blk_drewN ?_ _ | refine blk_drew ?_ | refine blk_alloc ?_ _)); refine blk_put (cs := #[.int .i64 x103000_2, .int .u8 x103001_2]) ?_ 1 _ rfl; (with_reducible repeat (first | refine blk_drewN ?_ _ | refine blk_drew ?_ | refine blk_alloc ?_ _)); exact BK102.out) Try.underlying46 rfl (by kernel_rfl)) rfl ?_
                    exact ⟨by first | rfl | (simp [errW_none, errW_some] <;> rfl) | (simp [*, errW_none, errW_some] <;> rfl), by repeat (first | (with_reducible first | exact HB.out | apply below_alloc | apply Go.Proofs.Ytjicpadeplminaa.Ext.below_bytes | apply pw_below_drewN | apply below_drew1 | refine below_set ?_ GE102.out) | exact HB.out)⟩
                · rw [if_neg c11] at H
                  exact absurd H (by simp)
              · rw [if_neg c10] at H
                have c10b0 : decide (x3_2 < (l0.length : Int)) = false := decide_eq_false c10
                clear c10
                simp only [Option.some.injEq, Prod.mk.injEq] at H
                obtain ⟨rfl, rfl, rfl⟩ := H
                have hcz18_0 : wr.cell? ⟨gb102, 0, none⟩ = some (.int .i64 x103000_2) := (blk_cell BK102.out 0).trans rfl
                have hcz18_1 : wr.cell? ⟨gb102, 1, none⟩ = some (.int .u8 x103001_2) := (blk_cell BK102.out 1).trans rfl
                have hfz18_0 := blk_frozen BK102.out 0
                have hfz18_1 := blk_frozen BK102.out 1
                go_wp2
                refine bodyPost_ret (results_ct rfl _ _ gb102 46 #[.int .i64 x103000_2, .int .u8 x103001_2] (0, 0) _ rfl (by (with_reducible repeat (first | refine blk_drewN ?_ _ | refine blk_drew ?_ | refine blk_alloc ?_ _)); refine blk_put (cs := #[.int .i64 x103000_2, .int .u8 x103001_2]) ?_ 1 _ rfl; (with_reducible repeat (first | refine blk_drewN ?_ _ | refine blk_drew ?_ | refine blk_alloc ?_ _)); refine blk_put (cs := #[.int .i64 x103000_2, .int .u8 x103001_2]) ?_ 0 _ rfl; (with_reducible repeat (first | refine blk_drewN ?_ _ | refine blk_drew ?_ | refine blk_alloc ?_ _)); exact BK102.out) Try.underlying46 rfl (by kernel_rfl)) rfl ?_
                exact ⟨by first | rfl | (simp [errW_none, errW_some] <;> rfl) | (simp [*, errW_none, errW_some] <;> rfl), by repeat (first | (with_reducible first | exact HB.out | apply below_alloc | apply Go.Proofs.Ytjicpadeplminaa.Ext.below_bytes | apply pw_below_drewN | apply below_drew1 | refine below_set ?_ GE102.out) | exact HB.out)⟩

/-! ### impl_own: function 17 -/
def impl_own.f (l0 : List Int) : Option (List Int) := if ([] : List Int).length + l0.length < 140737488355328 then (some (([] : List Int) ++ l0)) else (none)
set_option maxHeartbeats 8000000 in
set_option maxRecDepth 100000 in
theorem impl_own.calls (A0 : Option Addr) (c0 : Nat) (l0 : List Int) (r : List Int) (w : World) (hr0 : Kd.C (Kd.int .u8) w A0 l0.length l0) (hc0 : l0.length ≤ c0) (h : impl_own.f l0 = some r) :
    Calls Try.prog 17 #[.slice A0 l0.length c0] w fun e w' => ∃ v0_ : Value, e = .returned (v0_) ∧ Kd.R (Kd.int .u8) 5 w' w.heap.size (fun _ => True) v0_ r ∧ Below w.heap.size w w' := by
  have HR0 := Aside0.mk hr0
  have HC0 := Aside0.mk hc0
  clear hr0 hc0
  have HB := Aside0.mk (Below.refl w.heap.size w)
  have H : (if ([] : List Int).length + l0.length < 140737488355328 then (some (([] : List Int) ++ l0)) else (none)) = some r := h
  clear h
  by_cases c2 : ([] : List Int).length + l0.length < 140737488355328
  · rw [if_pos c2] at H
    have LMc2 := Aside0.mk c2
    clear c2
    obtain ⟨y109, hy109⟩ : ∃ y_ : List Int, y_ = (([] : List Int) ++ l0) := ⟨_, rfl⟩
    replace H : (some y109) = some r := by first | (rw [hy109]; with_reducible exact H) | (have H2_ := (Option.bind_some _ _).symm.trans H; rw [hy109]; with_reducible exact H2_) | (have H2_ := (Option.bind_some _ _).symm.trans H; with_reducible exact H2_) | with_reducible exact H | (rw [hy109]; exact H) | exact H
    have Ny109 := Aside0.mk hy109
    clear hy109
    obtain rfl := Option.some.inj H
    go_enter Try.func17, Try.ntmps17
    go_wp2_with (first | ((with_reducible refine gate_builtin (b := .append) (xs := #[.const (.slice none 0 0), .tmp 3]) rfl ?_); at_builtin; refine Kd.R_append_rows (Kd.int .u8) (w0 := w) w.heap.size rfl (.const (.slice none 0 0)) (.tmp 3) 25 5 (.int .u8 0) 1 rfl Try.underlying25 info5 rfl (by decide) (by omega) (.slice none 0 0) ([] : List Int) l0 _ _ _ (fun _ => True) (fun _ => False) rfl rfl ?aO ?aR (fun _ _ h => h) (fun _ h => h.elim) ?aF ?aB ?aS ?aL ?_; (case aR => repeat (first | exact HR0.out | (with_reducible refine Kd.C_alloc ?_ _) | (with_reducible refine Kd.C_drewN ?_ _) | (with_reducible refine Kd.C_drew ?_))); (case aB => exact (by repeat (first | (with_reducible first | exact HB.out | apply below_alloc | apply Go.Proofs.Ytjicpadeplminaa.Ext.below_bytes | apply pw_below_drewN | apply below_drew1) | exact HB.out))); (case aF => exact (fun _ _ => trivial)); (case aO => exact ((Kd.R_nil _ _ _ _ (fun _ => True)))); (case aS => exact (below_size (by repeat (first | (with_reducible first | exact HB.out | apply below_alloc | apply Go.Proofs.Ytjicpadeplminaa.Ext.below_bytes | apply pw_below_drewN | apply below_drew1) | exact HB.out)))); (case aL => have := LMc2.out; omega); intro v110 w3 ho hb hg hat; rw [← Ny109.out] at ho; have n0_ := Aside0.mk (hb); have n1_ := Aside0.mk (ho); clear HB; have HB := n0_; have HO111 := n1_; clear n0_ n1_; clear ho hb hg hat))
    go_ret
    exact ⟨_, by first | rfl | (simp [errW_none, errW_some] <;> rfl) | (simp [*, errW_none, errW_some] <;> rfl), by (with_reducible repeat (first | apply Kd.R_alloc | apply Go.Proofs.Ytjicpadeplminaa.Ext.R_bytes | apply Kd.R_drewN | apply Kd.R_drew)); exact HO111.out, by repeat (first | (with_reducible first | exact HB.out | apply below_alloc | apply Go.Proofs.Ytjicpadeplminaa.Ext.below_bytes | apply pw_below_drewN | apply below_drew1) | exact HB.out)⟩
  · rw [if_neg c2] at H
    exact absurd H (by simp)

/-! ### impl_DecodeRepeat: function 9 -/
def impl_DecodeRepeat.f (k : Nat) (l0 : List Int) : Option (Int × Int × Int) := (impl_own.f l0).bind fun t112 => ((sixel_DecodeRepeat.f k t112).bind fun bt115 => (some (bt115.1, bt115.2.1, bt115.2.2)))
theorem impl_DecodeRepeat.mono : ∀ a0 k, LeO (impl_DecodeRepeat.f k a0) (impl_DecodeRepeat.f (k + 1) a0) := by
  intro a0 k
  unfold impl_DecodeRepeat.f
  repeat' first
      | (with_reducible exact sixel_DecodeRepeat.mono _ _)
      | (with_reducible exact LeO.refl _)
      | (with_reducible exact LeO.none _)
      | (with_reducible refine LeO.ite ?_ ?_)
      | (with_reducible refine LeO.bind ?_ (fun _ => ?_))
      | exact sixel_DecodeRepeat.mono _ _
      | exact LeO.none _
      | refine LeO.ite ?_ ?_
      | refine LeO.bind ?_ (fun _ => ?_)
set_option maxHeartbeats 8000000 in
set_option maxRecDepth 100000 in
theorem impl_DecodeRepeat.calls (k : Nat) (A0 : Option Addr) (c0 : Nat) (l0 : List Int) (r1 : Int) (r2 : Int) (r3 : Int) (w : World) (hr0 : Kd.C (Kd.int .u8) w A0 l0.length l0) (hc0 : l0.length ≤ c0) (h : impl_DecodeRepeat.f k l0 = some (r1, r2, r3)) :
    Calls Try.prog 9 #[.slice A0 l0.length c0] w fun e w' => e = .returned (.tuple #[.int .i64 r1, .int .u8 r2, .int .i64 r3]) ∧ Below w.heap.size w w' := by
  have hu46 := Try.underlying46
  have HR0 := Aside0.mk hr0
  have HC0 := Aside0.mk hc0
  clear hr0 hc0
  have HB := Aside0.mk (Below.refl w.heap.size w)
  have H : ((impl_own.f l0).bind fun t112 => ((sixel_DecodeRepeat.f k t112).bind fun bt115 => (some (bt115.1, bt115.2.1, bt115.2.2)))) = some (r1, r2, r3) := h
  clear h
  replace H := Option.bind_eq_some_iff.mp H
  obtain ⟨t112, A20, H⟩ := H
  replace H : ((sixel_DecodeRepeat.f k t112).bind fun bt115 => (some (bt115.1, bt115.2.1, bt115.2.2))) = some (r1, r2, r3) := H
  have A2 := Aside0.mk A20
  clear A20
  replace H := Option.bind_eq_some_iff.mp H
  obtain ⟨⟨t115, t116, t117⟩, A30, H⟩ := H
  replace H : (some (t115, t116, t117)) = some (r1, r2, r3) := H
  have A3 := Aside0.mk A30
  clear A30
  simp only [Option.some.injEq, Prod.mk.injEq] at H
  obtain ⟨rfl, rfl, rfl⟩ := H
  go_enter Try.func9, Try.ntmps9
  go_wp2_with (first | (go_at_call 17; (with_reducible refine (impl_own.calls _ _ l0 t112 _ ?side1 ?side2 A2.out).mono ?_); (case side1 => repeat (first | exact HR0.out | (with_reducible refine Kd.C_alloc ?_ _) | (with_reducible refine Kd.C_drewN ?_ _) | (with_reducible refine Kd.C_drew ?_))); (case side2 => exact HC0.out); rintro e w4 ⟨v113, rfl, ho0, hb⟩; have n0_ := Aside0.mk (Kd.R_lower ho0 (below_size (by repeat (first | (with_reducible first | exact HB.out | apply below_alloc | apply Go.Proofs.Ytjicpadeplminaa.Ext.below_bytes | apply pw_below_drewN | apply below_drew1) | exact HB.out)))); have n1_ := Aside0.mk (below_step (by repeat (first | (with_reducible first | exact HB.out | apply below_alloc | apply Go.Proofs.Ytjicpadeplminaa.Ext.below_bytes | apply pw_below_drewN | apply below_drew1) | exact HB.out)) hb); clear HB; have HO114 := n0_; have HB := n1_; clear n0_ n1_; (try clear hb); (try clear hb2); (try clear hk); (try clear hi); (try clear ho0); obtain ⟨Ao5, co5, eo5⟩ := Kd.R_slice HO114.out; subst eo5) | (go_at_call 16; (with_reducible refine (sixel_DecodeRepeat.calls k _ _ t112 t115 t116 t117 _ ?side1 ?side2 A3.out).mono ?_); (case side1 => repeat (first | exact (Kd.R_reads' HO114.out).2.2 | (with_reducible refine Kd.C_alloc ?_ _) | (with_reducible refine Kd.C_drewN ?_ _) | (with_reducible refine Kd.C_drew ?_))); (case side2 => exact (Kd.R_reads' HO114.out).2.1); rintro e w6 ⟨rfl, hb⟩; have n0_ := Aside0.mk (Kd.R_below (by (with_reducible repeat (first | apply Kd.R_alloc | apply Go.Proofs.Ytjicpadeplminaa.Ext.R_bytes | apply Kd.R_drewN | apply Kd.R_drew)); exact HO114.out) hb); have n1_ := Aside0.mk (below_step (by repeat (first | (with_reducible first | exact HB.out | apply below_alloc | apply Go.Proofs.Ytjicpadeplminaa.Ext.below_bytes | apply pw_below_drewN | apply below_drew1) | exact HB.out)) hb); clear HO114; clear HB; have HO114 := n0_; have HB := n1_; clear n0_ n1_; (try clear hb); (try clear hb2); (try clear hk); (try clear hi)) | ((with_reducible refine gate_dst (N := 5) rfl ?_); refine box_event ?hg (N := 5) ?hd (cs := #[.int .i64 0, .int .u8 0]) (t := 46) ?hr ?_; (case hd => rfl); (case hg => rfl); (case hr => first | (go_simp; done) | (go_simp; rfl)); intro gb118 hg w7 hbox hb; have n0_ := Aside0.mk (Kd.R_below (by (with_reducible repeat (first | apply Kd.R_alloc | apply Go.Proofs.Ytjicpadeplminaa.Ext.R_bytes | apply Kd.R_drewN | apply Kd.R_drew)); exact HO114.out) hb); have n1_ := Aside0.mk (below_step (by repeat (first | (with_reducible first | exact HB.out | apply below_alloc | apply Go.Proofs.Ytjicpadeplminaa.Ext.below_bytes | apply pw_below_drewN | apply below_drew1) | exact HB.out)) hb); have n2_ := Aside0.mk (hbox); have n3_ := Aside0.mk ((by rw [hg]; exact (below_size (by repeat (first | (with_reducible first | exact HB.out | apply below_alloc | apply Go.Proofs.Ytjicpadeplminaa.Ext.below_bytes | apply pw_below_drewN | apply below_drew1) | exact HB.out))) : w.heap.size ≤ gb118)); have n4_ := Aside0.mk ((by rw [hg]; exact (below_size (by repeat (first | (with_reducible first | exact HB.out | apply below_alloc | apply Go.Proofs.Ytjicpadeplminaa.Ext.below_bytes | apply pw_below_drewN | apply below_drew1) | exact HB.out))) : w.heap.size ≤ gb118)); clear HO114; clear HB; have HO114 := n0_; have HB := n1_; have BK118 := n2_; have GW118 := n3_; have GE118 := n4_; clear n0_ n1_ n2_ n3_ n4_; clear hb hbox hg; have hcz8_0 : w7.cell? ⟨gb118, 0, none⟩ = some (.int .i64 0) := (blk_cell BK118.out 0).trans rfl; have hcz8_1 : w7.cell? ⟨gb118, 1, none⟩ = some (.int .u8 0) := (blk_cell BK118.out 1).trans rfl; have hfz8_0 := blk_frozen BK118.out 0; have hfz8_1 := blk_frozen BK118.out 1))
  repeat (go_quiet (first | (go_at_call 17; (with_reducible refine (impl_own.calls _ _ l0 t112 _ ?side1 ?side2 A2.out).mono ?_); (case side1 => repeat (first | exact HR0.out | (with_reducible refine Kd.C_alloc ?_ _) | (with_reducible refine Kd.C_drewN ?_ _) | (with_reducible refine Kd.C_drew ?_))); (case side2 => exact HC0.out); rintro e w4 ⟨v113, rfl, ho0, hb⟩; have n0_ := Aside0.mk (Kd.R_lower ho0 (below_size (by repeat (first | (with_reducible first | exact HB.out | apply below_alloc | apply Go.Proofs.Ytjicpadeplminaa.Ext.below_bytes | apply pw_below_drewN | apply below_drew1) | exact HB.out)))); have n1_ := Aside0.mk (below_step (by repeat (first | (with_reducible first | exact HB.out | apply below_alloc | apply Go.Proofs.Ytjicpadeplminaa.Ext.below_bytes | apply pw_below_drewN | apply below_drew1) | exact HB.out)) hb); clear HB; have HO114 := n0_; have HB := n1_; clear n0_ n1_; (try clear hb); (try clear hb2); (try clear hk); (try clear hi); (try clear ho0); obtain ⟨Ao5, co5, eo5⟩ := Kd.R_slice HO114.out; subst eo5) | (go_at_call 16; (with_reducible refine (sixel_DecodeRepeat.calls k _ _ t112 t115 t116 t117 _ ?side1 ?side2 A3.out).mono ?_); (case side1 => repeat (first | exact (Kd.R_reads' HO114.out).2.2 | (with_reducible refine Kd.C_alloc ?_ _) | (with_reducible refine Kd.C_drewN ?_ _) | (with_reducible refine Kd.C_drew ?_))); (case side2 => exact (Kd.R_reads' HO114.out).2.1); rintro e w6 ⟨rfl, hb⟩; have n0_ := Aside0.mk (Kd.R_below (by (with_reducible repeat (first | apply Kd.R_alloc | apply Go.Proofs.Ytjicpadeplminaa.Ext.R_bytes | apply Kd.R_drewN | apply Kd.R_drew)); exact HO114.out) hb); have n1_ := Aside0.mk (below_step (by repeat (first | (with_reducible first | exact HB.out | apply below_alloc | apply Go.Proofs.Ytjicpadeplminaa.Ext.below_bytes | apply pw_below_drewN | apply below_drew1) | exact HB.out)) hb); clear HO114; clear HB; have HO114 := n0_; have HB := n1_; clear n0_ n1_; (try clear hb); (try clear hb2); (try clear hk); (try clear hi)) | ((with_reducible refine gate_dst (N := 5) rfl ?_); refine box_event ?hg (N := 5) ?hd (cs := #[.int .i64 0, .int .u8 0]) (t := 46) ?hr ?_; (case hd => rfl); (case hg => rfl); (case hr => first | (go_simp; done) | (go_simp; rfl)); intro gb118 hg w7 hbox hb; have n0_ := Aside0.mk (Kd.R_below (by (with_reducible repeat (first | apply Kd.R_alloc | apply Go.Proofs.Ytjicpadeplminaa.Ext.R_bytes | apply Kd.R_drewN | apply Kd.R_drew)); exact HO114.out) hb); have n1_ := Aside0.mk (below_step (by repeat (first | (with_reducible first | exact HB.out | apply below_alloc | apply Go.Proofs.Ytjicpadeplminaa.Ext.below_bytes | apply pw_below_drewN | apply below_drew1) | exact HB.out)) hb); have n2_ := Aside0.mk (hbox); have n3_ := Aside0.mk ((by rw [hg]; exact (below_size (by repeat (first | (with_reducible first | exact HB.out | apply below_alloc | apply Go.Proofs.Ytjicpadeplminaa.Ext.below_bytes | apply pw_below_drewN | apply below_drew1) | exact HB.out))) : w.heap.size ≤ gb118)); have n4_ := Aside0.mk ((by rw [hg]; exact (below_size (by repeat (first | (with_reducible first | exact HB.out | apply below_alloc | apply Go.Proofs.Ytjicpadeplminaa.Ext.below_bytes | apply pw_below_drewN | apply below_drew1) | exact HB.out))) : w.heap.size ≤ gb118)); clear HO114; clear HB; have HO114 := n0_; have HB := n1_; have BK118 := n2_; have GW118 := n3_; have GE118 := n4_; clear n0_ n1_ n2_ n3_ n4_; clear hb hbox hg; have hcz8_0 : w7.cell? ⟨gb118, 0, none⟩ = some (.int .i64 0) := (blk_cell BK118.out 0).trans rfl; have hcz8_1 : w7.cell? ⟨gb118, 1, none⟩ = some (.int .u8 0) := (blk_cell BK118.out 1).trans rfl; have hfz8_0 := blk_frozen BK118.out 0; have hfz8_1 := blk_frozen BK118.out 1)); try go_wp2_with (first | (go_at_call 17; (with_reducible refine (impl_own.calls _ _ l0 t112 _ ?side1 ?side2 A2.out).mono ?_); (case side1 => repeat (first | exact HR0.out | (with_reducible refine Kd.C_alloc ?_ _) | (with_reducible refine Kd.C_drewN ?_ _) | (with_reducible refine Kd.C_drew ?_))); (case side2 => exact HC0.out); rintro e w4 ⟨v113, rfl, ho0, hb⟩; have n0_ := Aside0.mk (Kd.R_lower ho0 (below_size (by repeat (first | (with_reducible first | exact HB.out | apply below_alloc | apply Go.Proofs.Ytjicpadeplminaa.Ext.below_bytes | apply pw_below_drewN | apply below_drew1) | exact HB.out)))); have n1_ := Aside0.mk (below_step (by repeat (first | (with_reducible first | exact HB.out | apply below_alloc | apply Go.Proofs.Ytjicpadeplminaa.Ext.below_bytes | apply pw_below_drewN | apply below_drew1) | exact HB.out)) hb); clear HB; have HO114 := n0_; have HB := n1_; clear n0_ n1_; (try clear hb); (try clear hb2); (try clear hk); (try clear hi); (try clear ho0); obtain ⟨Ao5, co5, eo5⟩ := Kd.R_slice HO114.out; subst eo5) | (go_at_call 16; (with_reducible refine (sixel_DecodeRepeat.calls k _ _ t112 t115 t116 t117 _ ?side1 ?side2 A3.out).mono ?_); (case side1 => repeat (first | exact (Kd.R_reads' HO114.out).2.2 | (with_reducible refine Kd.C_alloc ?_ _) | (with_reducible refine Kd.C_drewN ?_ _) | (with_reducible refine Kd.C_drew ?_))); (case side2 => exact (Kd.R_reads' HO114.out).2.1); rintro e w6 ⟨rfl, hb⟩; have n0_ := Aside0.mk (Kd.R_below (by (with_reducible repeat (first | apply Kd.R_alloc | apply Go.Proofs.Ytjicpadeplminaa.Ext.R_bytes | apply Kd.R_drewN | apply Kd.R_drew)); exact HO114.out) hb); have n1_ := Aside0.mk (below_step (by repeat (first | (with_reducible first | exact HB.out | apply below_alloc | apply Go.Proofs.Ytjicpadeplminaa.Ext.below_bytes | apply pw_below_drewN | apply below_drew1) | exact HB.out)) hb); clear HO114; clear HB; have HO114 := n0_; have HB := n1_; clear n0_ n1_; (try clear hb); (try clear hb2); (try clear hk); (try clear hi)) | ((with_reducible refine gate_dst (N := 5) rfl ?_); refine box_event ?hg (N := 5) ?hd (cs := #[.int .i64 0, .int .u8 0]) (t := 46) ?hr ?_; (case hd => rfl); (case hg => rfl); (case hr => first | (go_simp; done) | (go_simp; rfl)); intro gb118 hg w7 hbox hb; have n0_ := Aside0.mk (Kd.R_below (by (with_reducible repeat (first | apply Kd.R_alloc | apply Go.Proofs.Ytjicpadeplminaa.Ext.R_bytes | apply Kd.R_drewN | apply Kd.R_drew)); exact HO114.out) hb); have n1_ := Aside0.mk (below_step (by repeat (first | (with_reducible first | exact HB.out | apply below_alloc | apply Go.Proofs.Ytjicpadeplminaa.Ext.below_bytes | apply pw_below_drewN | apply below_drew1) | exact HB.out)) hb); have n2_ := Aside0.mk (hbox); have n3_ := Aside0.mk ((by rw [hg]; exact (below_size (by repeat (first | (with_reducible first | exact HB.out | apply below_alloc | apply Go.Proofs.Ytjicpadeplminaa.Ext.below_bytes | apply pw_below_drewN | apply below_drew1) | exact HB.out))) : w.heap.size ≤ gb118)); have n4_ := Aside0.mk ((by rw [hg]; exact (below_size (by repeat (first | (with_reducible first | exact HB.out | apply below_alloc | apply Go.Proofs.Ytjicpadeplminaa.Ext.below_bytes | apply pw_below_drewN | apply below_drew1) | exact HB.out))) : w.heap.size ≤ gb118)); clear HO114; clear HB; have HO114 := n0_; have HB := n1_; have BK118 := n2_; have GW118 := n3_; have GE118 := n4_; clear n0_ n1_ n2_ n3_ n4_; clear hb hbox hg; have hcz8_0 : w7.cell? ⟨gb118, 0, none⟩ = some (.int .i64 0) := (blk_cell BK118.out 0).trans rfl; have hcz8_1 : w7.cell? ⟨gb118, 1, none⟩ = some (.int .u8 0) := (blk_cell BK118.out 1).trans rfl; have hfz8_0 := blk_frozen BK118.out 0; have hfz8_1 := blk_frozen BK118.out 1)))
  go_ret3
  exact ⟨by first | rfl | (simp [errW_none, errW_some] <;> rfl) | (simp [*, errW_none, errW_some] <;> rfl), by repeat (first | (with_reducible first | exact HB.out | apply below_alloc | apply Go.Proofs.Ytjicpadeplminaa.Ext.below_bytes | apply pw_below_drewN | apply below_drew1 | refine below_set ?_ GE118.out) | exact HB.out)⟩

end Go.Proofs.Ytjicpadeplminaa.PX
