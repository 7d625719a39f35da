-- Written by wip/pp.py, a program of this session, out of the translation. Not trusted: Lean checks it.
import Derived.Test.YtjicpadeplminaaPNx0
import Derived.Test.YtjicpadeplminaaPNx1
import Derived.Test.YtjicpadeplminaaPNx2
namespace Go.Proofs.Ytjicpadeplminaa.PN
open Go.RowKit Go.Proofs.Ytjicpadeplminaa.Or Go.Proofs.YtjicpadeplminaaW.PrintWords Go.Proofs.YtjicpadeplminaaW.PrintLast Go.Proofs.YtjicpadeplminaaW.PrintMore
attribute [local go_sem] max2_int min2_int max_two min_two max_three min_three max_four min_four   -- for this text's walks alone
attribute [local go_sem] Go.Proofs.Ytjicpadeplminaa.Ext.wrap64_mod256 Go.Proofs.Ytjicpadeplminaa.Ext.wrap64_mod32 Go.Proofs.Ytjicpadeplminaa.Ext.i64_mod256 Go.Proofs.Ytjicpadeplminaa.Ext.i64_mod32 Go.Proofs.Ytjicpadeplminaa.Ext.i64_u8 Go.Proofs.Ytjicpadeplminaa.Ext.w64_u8 Go.Proofs.Ytjicpadeplminaa.Ext.i64_u32 Go.Proofs.Ytjicpadeplminaa.Ext.w64_u32 
set_option linter.unusedVariables false
set_option linter.unusedSimpArgs false

attribute [local go_sem high] eqA32 eqA39
/-! ### spec_FewDigits: function 8 -/
mutual
def spec_FewDigits.l0 : Nat → Int → List Int → Int → Int → Option (Bool)
  | 0, _, _, _, _ => none
  | k + 1, x3, x6, x7, x8 => if x8 < x7 then (if 0 ≤ x8 then (if x8 < (x6.length : Int) then (if (rd x6 x8) < 48 then (spec_FewDigits.j1 k x3 x6 x7 x8 true) else (spec_FewDigits.j1 k x3 x6 x7 x8 (decide ((rd x6 x8) > 57)))) else (none)) else (none)) else (some true)
def spec_FewDigits.j1 : Nat → Int → List Int → Int → Int → Bool → Option (Bool)
  | 0, _, _, _, _, _ => none
  | k + 1, x3, x6, x7, x8, x17 => if x17 = true then (spec_FewDigits.l0 k 0 x6 x7 (wrap64 (x8 + 1))) else (if (wrap64 (x3 + 1)) > 17 then (some false) else (spec_FewDigits.l0 k (wrap64 (x3 + 1)) x6 x7 (wrap64 (x8 + 1))))
end
def spec_FewDigits.f (k : Nat) (l0 : List Int) : Option (Bool) := spec_FewDigits.l0 k 0 l0 (l0.length : Int) 0
theorem spec_FewDigits.mono_l : ∀ k, (∀ y0 y1 y2 y3, LeO (spec_FewDigits.l0 k y0 y1 y2 y3) (spec_FewDigits.l0 (k + 1) y0 y1 y2 y3)) ∧ (∀ y0 y1 y2 y3 y4, LeO (spec_FewDigits.j1 k y0 y1 y2 y3 y4) (spec_FewDigits.j1 (k + 1) y0 y1 y2 y3 y4))
  | 0 => ⟨fun _ _ _ _ r h => by simp [spec_FewDigits.l0] at h, fun _ _ _ _ _ r h => by simp [spec_FewDigits.j1] at h⟩
  | k + 1 => by
    obtain ⟨ih0, ih1⟩ := spec_FewDigits.mono_l k
    refine ⟨?_, ?_⟩
    · intro y0 y1 y2 y3
      unfold spec_FewDigits.l0
      repeat' first
      | (with_reducible exact ih0 _ _ _ _)
      | (with_reducible exact ih1 _ _ _ _ _)
      | (with_reducible exact LeO.refl _)
      | (with_reducible exact LeO.none _)
      | (with_reducible refine LeO.ite ?_ ?_)
      | (with_reducible refine LeO.bind ?_ (fun _ => ?_))
      | exact ih0 _ _ _ _
      | exact ih1 _ _ _ _ _
      | exact LeO.none _
      | refine LeO.ite ?_ ?_
      | refine LeO.bind ?_ (fun _ => ?_)
    · intro y0 y1 y2 y3 y4
      unfold spec_FewDigits.j1
      repeat' first
      | (with_reducible exact ih0 _ _ _ _)
      | (with_reducible exact ih1 _ _ _ _ _)
      | (with_reducible exact LeO.refl _)
      | (with_reducible exact LeO.none _)
      | (with_reducible refine LeO.ite ?_ ?_)
      | (with_reducible refine LeO.bind ?_ (fun _ => ?_))
      | exact ih0 _ _ _ _
      | exact ih1 _ _ _ _ _
      | exact LeO.none _
      | refine LeO.ite ?_ ?_
      | refine LeO.bind ?_ (fun _ => ?_)
theorem spec_FewDigits.mono : ∀ a0 k, LeO (spec_FewDigits.f k a0) (spec_FewDigits.f (k + 1) a0) := by
  intro a0 k
  obtain ⟨ih0, ih1⟩ := spec_FewDigits.mono_l k
  unfold spec_FewDigits.f
  repeat' first
      | (with_reducible exact ih0 _ _ _ _)
      | (with_reducible exact ih1 _ _ _ _ _)
      | (with_reducible exact LeO.refl _)
      | (with_reducible exact LeO.none _)
      | (with_reducible refine LeO.ite ?_ ?_)
      | (with_reducible refine LeO.bind ?_ (fun _ => ?_))
      | exact ih0 _ _ _ _
      | exact ih1 _ _ _ _ _
      | exact LeO.none _
      | refine LeO.ite ?_ ?_
      | refine LeO.bind ?_ (fun _ => ?_)
set_option maxHeartbeats 8000000 in
set_option maxRecDepth 100000 in
theorem spec_FewDigits.calls (k : Nat) (A0 : Option Addr) (c0 : Nat) (l0 : List Int) (r : Bool) (w : World) (hr0 : Kd.C (Kd.int .u8) w A0 l0.length l0) (hc0 : l0.length ≤ c0) (h : spec_FewDigits.f k l0 = some r) :
    Calls Try.prog 8 #[.slice A0 l0.length c0] w fun e w' => e = .returned (.bool r) ∧ Drawn0 w w' := by
  have HR0 := Aside0.mk hr0
  have HC0 := Aside0.mk hc0
  clear hr0 hc0
  have H : (spec_FewDigits.l0 k 0 l0 (l0.length : Int) 0) = some r := h
  clear h
  have H' := Aside0.mk H
  clear H
  go_enter Try.func8, Try.ntmps8
  go_wp2
  go_loopg [3, 8] k (fun kq v3 v8 w' => ∃ (x3_1 : Int) (x8_1 : Int), v3 = .int .i64 x3_1 ∧ v8 = .int .i64 x8_1 ∧ Aside0 (spec_FewDigits.l0 kq x3_1 l0 (l0.length : Int) x8_1 = some r) ∧ Aside0 (kq ≤ k) ∧ Drawn0 w w')
  case atStart => exact ⟨(0), (0), (by first | rfl | (simp; done) | (simp [*]; done)), (by first | rfl | (simp; done) | (simp [*]; done)), H', ⟨Nat.le_refl _⟩, by repeat (first | exact Drawn0.refl _ | apply Drawn0.step)⟩
  case round =>
    clear H'
    obtain ⟨x3_1, x8_1, rfl, rfl, HA, HK1, ⟨m1, rfl⟩⟩ := hrel
    cases gk with
    | zero => exact absurd HA.out (by simp [spec_FewDigits.l0])
    | succ k1 =>
      have H := HA.out
      clear HA
      simp only [spec_FewDigits.l0] at H
      by_cases c2 : x8_1 < (l0.length : Int)
      · rw [if_pos c2] at H
        have c2b0 : decide (x8_1 < (l0.length : Int)) = true := decide_eq_true c2
        clear c2
        by_cases c3 : 0 ≤ x8_1
        · rw [if_pos c3] at H
          have c3b0 : decide (0 ≤ x8_1) = true := decide_eq_true c3
          clear c3
          by_cases c4 : x8_1 < (l0.length : Int)
          · rw [if_pos c4] at H
            have c4b0 : decide (x8_1 < (l0.length : Int)) = true := decide_eq_true c4
            clear c4
            have HC5 := Aside0.mk H
            clear H
            have p101 : 0 ≤ (x8_1 : Int) := of_decide_eq_true (by first | (with_reducible assumption) | assumption)
            have q101 : x8_1 < (l0.length : Int) := of_decide_eq_true (by first | (with_reducible assumption) | assumption)
            obtain ⟨ad101, e101, hx101_0⟩ := Kd.at_int HR0.out x8_1 p101 q101
            cases e101
            replace p101 := eq_true p101
            replace q101 := eq_true q101
            go_upto_region 5 with (fail)
            go_cut [17] (fun v17 wc => ∃ (kq : Nat) (x17_4 : Bool), v17 = .bool x17_4 ∧ Aside0 (spec_FewDigits.j1 kq x3_1 l0 (l0.length : Int) x8_1 x17_4 = some r) ∧ Aside0 (kq ≤ k1) ∧ Drawn0 w wc)
            case first =>
              have H := HC5.out
              clear HC5
              by_cases c6 : (rd l0 x8_1) < 48
              · rw [if_pos c6] at H
                have c6b0 : decide ((rd l0 x8_1) < 48) = true := decide_eq_true c6
                clear c6
                (first | rw [c6b0] | (simp only [i64_w, i32_w]; rw [c6b0]) | skip)
                have H' := Aside0.mk H
                clear H
                go_wp2
                go_meet
                case rel => exact ⟨_, (true), (by first | rfl | (simp; done) | (simp [*]; done)), H', ⟨by have := HK1.out; first | omega | exact Nat.le_refl _⟩, by repeat (first | exact Drawn0.refl _ | apply Drawn0.step)⟩
              · rw [if_neg c6] at H
                have c6b0 : decide ((rd l0 x8_1) < 48) = false := decide_eq_false c6
                clear c6
                (first | rw [c6b0] | (simp only [i64_w, i32_w]; rw [c6b0]) | skip)
                have H' := Aside0.mk H
                clear H
                go_wp2
                go_meet
                case rel => exact ⟨_, (decide ((rd l0 x8_1) > 57)), (by first | rfl | (simp; done) | (simp [*]; done)), H', ⟨by have := HK1.out; first | omega | exact Nat.le_refl _⟩, by repeat (first | exact Drawn0.refl _ | apply Drawn0.step)⟩
            case rest =>
              clear HC5
              try clear p1
              try clear q1
              try clear hx1
              try clear c2
              try clear c2b0
              try clear p2
              try clear c3
              try clear c3b0
              try clear c4
              try clear c4b0
              try clear c6
              try clear c6b0
              try clear hx101_0
              try clear p101
              try clear q101
              obtain ⟨kq, x17_4, rfl, HA, HJ4, ⟨mc4, rfl⟩⟩ := hcut
              cases kq with
              | zero => exact absurd HA.out (by simp [spec_FewDigits.j1])
              | succ kj4 =>
                have H := HA.out
                clear HA
                simp only [spec_FewDigits.j1] at H
                by_cases c7 : x17_4 = true
                · subst c7
                  have H1 : (spec_FewDigits.l0 kj4 0 l0 (l0.length : Int) (wrap64 (x8_1 + 1))) = some r := by rw [if_pos rfl] at H; exact H
                  clear H
                  have H := H1
                  clear H1
                  have H' := Aside0.mk H
                  clear H
                  go_wp2
                  go_roundg kj4
                  case measure => have := HK1.out; have := HJ4.out; omega
                  case rel => exact ⟨(0), (wrap64 (x8_1 + 1)), (by first | rfl | (simp; done) | (simp [*]; done)), (by first | rfl | (simp; done) | (simp [*]; done)), H', ⟨by have := HK1.out; have := HJ4.out; omega⟩, by repeat (first | exact Drawn0.refl _ | apply Drawn0.step)⟩
                · replace c7 := Bool.eq_false_iff.mpr c7
                  subst c7
                  have H1 : (if (wrap64 (x3_1 + 1)) > 17 then (some false) else (spec_FewDigits.l0 kj4 (wrap64 (x3_1 + 1)) l0 (l0.length : Int) (wrap64 (x8_1 + 1)))) = some r := by rw [if_neg (show ¬ (false = true) by decide)] at H; exact H
                  clear H
                  have H := H1
                  clear H1
                  by_cases c8 : (wrap64 (x3_1 + 1)) > 17
                  · rw [if_pos c8] at H
                    have c8b0 : decide (17 < (wrap64 (x3_1 + 1))) = true := decide_eq_true c8
                    clear c8
                    obtain rfl := Option.some.inj H
                    go_wp2
                    go_ret
                    exact ⟨by first | rfl | (simp; done) | (simp [*]; done), by repeat (first | exact Drawn0.refl _ | apply Drawn0.step)⟩
                  · rw [if_neg c8] at H
                    have c8b0 : decide (17 < (wrap64 (x3_1 + 1))) = false := decide_eq_false c8
                    clear c8
                    have H' := Aside0.mk H
                    clear H
                    go_wp2
                    go_roundg kj4
                    case measure => have := HK1.out; have := HJ4.out; omega
                    case rel => exact ⟨(wrap64 (x3_1 + 1)), (wrap64 (x8_1 + 1)), (by first | rfl | (simp; done) | (simp [*]; done)), (by first | rfl | (simp; done) | (simp [*]; done)), H', ⟨by have := HK1.out; have := HJ4.out; omega⟩, by repeat (first | exact Drawn0.refl _ | apply Drawn0.step)⟩
          · rw [if_neg c4] at H
            exact absurd H (by simp)
        · rw [if_neg c3] at H
          exact absurd H (by simp)
      · rw [if_neg c2] at H
        have c2b0 : decide (x8_1 < (l0.length : Int)) = false := decide_eq_false c2
        clear c2
        obtain rfl := Option.some.inj H
        go_wp2
        go_ret
        exact ⟨by first | rfl | (simp; done) | (simp [*]; done), by repeat (first | exact Drawn0.refl _ | apply Drawn0.step)⟩

/-! ### impl_own: function 17 -/
def impl_own.f (l0 : List Int) : Option (List Int) := if ([] : List Int).length + l0.length < 140737488355328 then (some (([] : List Int) ++ l0)) else (none)
set_option maxHeartbeats 8000000 in
set_option maxRecDepth 100000 in
theorem impl_own.calls (A0 : Option Addr) (c0 : Nat) (l0 : List Int) (r : List Int) (w : World) (hr0 : Kd.C (Kd.int .u8) w A0 l0.length l0) (hc0 : l0.length ≤ c0) (h : impl_own.f l0 = some r) :
    Calls Try.prog 17 #[.slice A0 l0.length c0] w fun e w' => ∃ v0_ : Value, e = .returned (v0_) ∧ Kd.R (Kd.int .u8) 5 w' w.heap.size (fun _ => True) v0_ r ∧ Below w.heap.size w w' := by
  have HR0 := Aside0.mk hr0
  have HC0 := Aside0.mk hc0
  clear hr0 hc0
  have HB := Aside0.mk (Below.refl w.heap.size w)
  have H : (if ([] : List Int).length + l0.length < 140737488355328 then (some (([] : List Int) ++ l0)) else (none)) = some r := h
  clear h
  by_cases c2 : ([] : List Int).length + l0.length < 140737488355328
  · rw [if_pos c2] at H
    have LMc2 := Aside0.mk c2
    clear c2
    obtain ⟨y102, hy102⟩ : ∃ y_ : List Int, y_ = (([] : List Int) ++ l0) := ⟨_, rfl⟩
    replace H : (some y102) = some r := by first | (rw [hy102]; with_reducible exact H) | (have H2_ := (Option.bind_some _ _).symm.trans H; rw [hy102]; with_reducible exact H2_) | (have H2_ := (Option.bind_some _ _).symm.trans H; with_reducible exact H2_) | with_reducible exact H | (rw [hy102]; exact H) | exact H
    have Ny102 := Aside0.mk hy102
    clear hy102
    obtain rfl := Option.some.inj H
    go_enter Try.func17, Try.ntmps17
    go_wp2_with (first | ((with_reducible refine gate_builtin (b := .append) (xs := #[.const (.slice none 0 0), .tmp 3]) rfl ?_); at_builtin; refine Kd.R_append_rows (Kd.int .u8) (w0 := w) w.heap.size rfl (.const (.slice none 0 0)) (.tmp 3) 25 5 (.int .u8 0) 1 rfl Try.underlying25 info5 rfl (by decide) (by omega) (.slice none 0 0) ([] : List Int) l0 _ _ _ (fun _ => True) (fun _ => False) rfl rfl ?aO ?aR (fun _ _ h => h) (fun _ h => h.elim) ?aF ?aB ?aS ?aL ?_; (case aR => repeat (first | exact HR0.out | (with_reducible refine Kd.C_alloc ?_ _) | (with_reducible refine Kd.C_drewN ?_ _) | (with_reducible refine Kd.C_drew ?_))); (case aB => exact (by repeat (first | (with_reducible first | exact HB.out | apply below_alloc | apply Go.Proofs.Ytjicpadeplminaa.Ext.below_bytes | apply pw_below_drewN | apply below_drew1) | exact HB.out))); (case aF => exact (fun _ _ => trivial)); (case aO => exact ((Kd.R_nil _ _ _ _ (fun _ => True)))); (case aS => exact (below_size (by repeat (first | (with_reducible first | exact HB.out | apply below_alloc | apply Go.Proofs.Ytjicpadeplminaa.Ext.below_bytes | apply pw_below_drewN | apply below_drew1) | exact HB.out)))); (case aL => have := LMc2.out; omega); intro v103 w3 ho hb hg hat; rw [← Ny102.out] at ho; have n0_ := Aside0.mk (hb); have n1_ := Aside0.mk (ho); clear HB; have HB := n0_; have HO104 := n1_; clear n0_ n1_; clear ho hb hg hat))
    go_ret
    exact ⟨_, by first | rfl | (simp [errW_none, errW_some] <;> rfl) | (simp [*, errW_none, errW_some] <;> rfl), by (with_reducible repeat (first | apply Kd.R_alloc | apply Go.Proofs.Ytjicpadeplminaa.Ext.R_bytes | apply Kd.R_drewN | apply Kd.R_drew)); exact HO104.out, by repeat (first | (with_reducible first | exact HB.out | apply below_alloc | apply Go.Proofs.Ytjicpadeplminaa.Ext.below_bytes | apply pw_below_drewN | apply below_drew1) | exact HB.out)⟩
  · rw [if_neg c2] at H
    exact absurd H (by simp)

/-! ### impl_DecodeRaster: function 11 -/
def impl_DecodeRaster.f (l0 : List Int) : Option (Int × Int × Int × Int × Int) := (impl_own.f l0).bind fun t106 => ((sixel_DecodeRaster.f t106).bind fun bt109 => (some (bt109.1, bt109.2.1, bt109.2.2.1, bt109.2.2.2.1, bt109.2.2.2.2)))
set_option maxHeartbeats 8000000 in
set_option maxRecDepth 100000 in
theorem impl_DecodeRaster.calls (A0 : Option Addr) (c0 : Nat) (l0 : List Int) (r1 : Int) (r2 : Int) (r3 : Int) (r4 : Int) (r5 : Int) (w : World) (hr0 : Kd.C (Kd.int .u8) w A0 l0.length l0) (hc0 : l0.length ≤ c0) (h : impl_DecodeRaster.f l0 = some (r1, r2, r3, r4, r5)) :
    Calls Try.prog 11 #[.slice A0 l0.length c0] w fun e w' => e = .returned (.tuple #[.agg #[.int .i64 r1, .int .i64 r2, .int .i64 r3, .int .i64 r4], .int .i64 r5]) ∧ Below w.heap.size w w' := by
  have hu32 := Try.underlying32
  have hu51 := Try.underlying51
  have HR0 := Aside0.mk hr0
  have HC0 := Aside0.mk hc0
  clear hr0 hc0
  have HB := Aside0.mk (Below.refl w.heap.size w)
  have H : ((impl_own.f l0).bind fun t106 => ((sixel_DecodeRaster.f t106).bind fun bt109 => (some (bt109.1, bt109.2.1, bt109.2.2.1, bt109.2.2.2.1, bt109.2.2.2.2)))) = some (r1, r2, r3, r4, r5) := h
  clear h
  replace H := Option.bind_eq_some_iff.mp H
  obtain ⟨t106, A20, H⟩ := H
  replace H : ((sixel_DecodeRaster.f t106).bind fun bt109 => (some (bt109.1, bt109.2.1, bt109.2.2.1, bt109.2.2.2.1, bt109.2.2.2.2))) = some (r1, r2, r3, r4, r5) := H
  have A2 := Aside0.mk A20
  clear A20
  replace H := Option.bind_eq_some_iff.mp H
  obtain ⟨⟨t109, t110, t111, t112, t113⟩, A30, H⟩ := H
  replace H : (some (t109, t110, t111, t112, t113)) = some (r1, r2, r3, r4, r5) := H
  have A3 := Aside0.mk A30
  clear A30
  simp only [Option.some.injEq, Prod.mk.injEq] at H
  obtain ⟨rfl, rfl, rfl, rfl, rfl⟩ := H
  go_enter Try.func11, Try.ntmps11
  go_wp2_with (first | ((with_reducible refine gate_dst (N := 2) rfl ?_); refine box_event ?hg (N := 2) ?hd (cs := #[.int .i64 0, .int .i64 0, .int .i64 0, .int .i64 0]) (t := 32) ?hr ?_; (case hd => rfl); (case hg => rfl); (case hr => first | (go_simp; done) | (go_simp; rfl)); intro gb105 hg w4 hbox hb; have n0_ := Aside0.mk (below_step (by repeat (first | (with_reducible first | exact HB.out | apply below_alloc | apply Go.Proofs.Ytjicpadeplminaa.Ext.below_bytes | apply pw_below_drewN | apply below_drew1) | exact HB.out)) hb); have n1_ := Aside0.mk (hbox); have n2_ := Aside0.mk ((by rw [hg]; exact (below_size (by repeat (first | (with_reducible first | exact HB.out | apply below_alloc | apply Go.Proofs.Ytjicpadeplminaa.Ext.below_bytes | apply pw_below_drewN | apply below_drew1) | exact HB.out))) : w.heap.size ≤ gb105)); have n3_ := Aside0.mk ((by rw [hg]; exact (below_size (by repeat (first | (with_reducible first | exact HB.out | apply below_alloc | apply Go.Proofs.Ytjicpadeplminaa.Ext.below_bytes | apply pw_below_drewN | apply below_drew1) | exact HB.out))) : w.heap.size ≤ gb105)); clear HB; have HB := n0_; have BK105 := n1_; have GW105 := n2_; have GE105 := n3_; clear n0_ n1_ n2_ n3_; clear hb hbox hg) | ((with_reducible refine gate_callee (f := 17) rfl ?_); refine goesL_ (some 8) rfl rfl Try.func17 (by kernel_rfl) rfl #[.slice A0 l0.length c0] rfl (by (try simp only [List.map_toArray, List.map_cons, List.map_nil]); first | done | rfl | (simp only [List.length_drop, List.length_take]; rfl) | (simp [Act.eval, *]; done)) ?_; (with_reducible refine (impl_own.calls _ _ l0 t106 _ ?side1 ?side2 A2.out).mono ?_); (case side1 => repeat (first | exact (Kd.C_below HR0.out HB.out) | (with_reducible refine Kd.C_alloc ?_ _) | (with_reducible refine Kd.C_drewN ?_ _) | (with_reducible refine Kd.C_drew ?_))); (case side2 => exact HC0.out); rintro e w5 ⟨v107, rfl, ho0, hb⟩; refine ⟨_, rfl, ?_⟩; have n0_ := Aside0.mk (Kd.R_lower ho0 (below_size (by repeat (first | (with_reducible first | exact HB.out | apply below_alloc | apply Go.Proofs.Ytjicpadeplminaa.Ext.below_bytes | apply pw_below_drewN | apply below_drew1 | refine below_set ?_ GE105.out) | exact HB.out)))); have n1_ := Aside0.mk (blk_below (g := gb105) (o := .cells #[.int .i64 0, .int .i64 0, .int .i64 0, .int .i64 0] 32 (0, 0)) (by (with_reducible repeat (first | refine blk_drewN ?_ _ | refine blk_drew ?_ | refine blk_alloc ?_ _)); exact BK105.out) hb); have n2_ := Aside0.mk (below_step (by repeat (first | (with_reducible first | exact HB.out | apply below_alloc | apply Go.Proofs.Ytjicpadeplminaa.Ext.below_bytes | apply pw_below_drewN | apply below_drew1 | refine below_set ?_ GE105.out) | exact HB.out)) hb); clear BK105; clear HB; have HO108 := n0_; have BK105 := n1_; have HB := n2_; clear n0_ n1_ n2_; (try clear hb); (try clear hb2); (try clear hk); (try clear hi); (try clear ho0); obtain ⟨Ao6, co6, eo6⟩ := Kd.R_slice HO108.out; subst eo6) | ((with_reducible refine gate_callee (f := 18) rfl ?_); refine goesL_ (some 9) rfl rfl Try.func18 (by kernel_rfl) rfl #[.slice Ao6 t106.length co6] rfl (by (try simp only [List.map_toArray, List.map_cons, List.map_nil]); first | done | rfl | (simp only [List.length_drop, List.length_take]; rfl) | (simp [Act.eval, *]; done)) ?_; (with_reducible refine (sixel_DecodeRaster.calls _ _ t106 t109 t110 t111 t112 t113 _ ?side1 ?side2 A3.out).mono ?_); (case side1 => repeat (first | exact (Kd.R_reads' HO108.out).2.2 | (with_reducible refine Kd.C_alloc ?_ _) | (with_reducible refine Kd.C_drewN ?_ _) | (with_reducible refine Kd.C_drew ?_))); (case side2 => exact (Kd.R_reads' HO108.out).2.1); rintro e w7 ⟨rfl, hb⟩; refine ⟨_, rfl, ?_⟩; have n0_ := Aside0.mk (Kd.R_below (by (with_reducible repeat (first | apply Kd.R_alloc | apply Go.Proofs.Ytjicpadeplminaa.Ext.R_bytes | apply Kd.R_drewN | apply Kd.R_drew)); exact HO108.out) hb); have n1_ := Aside0.mk (blk_below (g := gb105) (o := .cells #[.int .i64 0, .int .i64 0, .int .i64 0, .int .i64 0] 32 (0, 0)) (by (with_reducible repeat (first | refine blk_drewN ?_ _ | refine blk_drew ?_ | refine blk_alloc ?_ _)); exact BK105.out) hb); have n2_ := Aside0.mk (below_step (by repeat (first | (with_reducible first | exact HB.out | apply below_alloc | apply Go.Proofs.Ytjicpadeplminaa.Ext.below_bytes | apply pw_below_drewN | apply below_drew1 | refine below_set ?_ GE105.out) | exact HB.out)) hb); clear HO108; clear BK105; clear HB; have HO108 := n0_; have BK105 := n1_; have HB := n2_; clear n0_ n1_ n2_; (try clear hb); (try clear hb2); (try clear hk); (try clear hi)) | ((with_reducible refine gate_dst (N := 4) rfl ?_); refine box_event ?hg (N := 4) ?hd (cs := #[.int .i64 0, .int .i64 0, .int .i64 0, .int .i64 0]) (t := 51) ?hr ?_; (case hd => rfl); (case hg => rfl); (case hr => first | (go_simp; done) | (go_simp; rfl)); intro gb114 hg w8 hbox hb; have n0_ := Aside0.mk (Kd.R_below (by (with_reducible repeat (first | apply Kd.R_alloc | apply Go.Proofs.Ytjicpadeplminaa.Ext.R_bytes | apply Kd.R_drewN | apply Kd.R_drew)); exact HO108.out) hb); have n1_ := Aside0.mk (blk_below (g := gb105) (o := .cells #[.int .i64 0, .int .i64 0, .int .i64 0, .int .i64 0] 32 (0, 0)) (by (with_reducible repeat (first | refine blk_drewN ?_ _ | refine blk_drew ?_ | refine blk_alloc ?_ _)); exact BK105.out) hb); have n2_ := Aside0.mk (below_step (by repeat (first | (with_reducible first | exact HB.out | apply below_alloc | apply Go.Proofs.Ytjicpadeplminaa.Ext.below_bytes | apply pw_below_drewN | apply below_drew1 | refine below_set ?_ GE105.out) | exact HB.out)) hb); have n3_ := Aside0.mk (hbox); have n4_ := Aside0.mk ((by rw [hg]; exact (below_size (by repeat (first | (with_reducible first | exact HB.out | apply below_alloc | apply Go.Proofs.Ytjicpadeplminaa.Ext.below_bytes | apply pw_below_drewN | apply below_drew1 | refine below_set ?_ GE105.out) | exact HB.out))) : w.heap.size ≤ gb114)); have n5_ := Aside0.mk ((by rw [hg]; exact (below_size (by repeat (first | (with_reducible first | exact HB.out | apply below_alloc | apply Go.Proofs.Ytjicpadeplminaa.Ext.below_bytes | apply pw_below_drewN | apply below_drew1 | refine below_set ?_ GE105.out) | exact HB.out))) : w.heap.size ≤ gb114)); have n6_ := Aside0.mk ((by rw [hg]; exact Nat.ne_of_lt (blk_lt (g := gb105) (o := .cells #[.int .i64 0, .int .i64 0, .int .i64 0, .int .i64 0] 32 (0, 0)) (by (with_reducible repeat (first | refine blk_drewN ?_ _ | refine blk_drew ?_ | refine blk_alloc ?_ _)); exact BK105.out)) : gb105 ≠ gb114)); have n7_ := Aside0.mk ((by rw [hg]; exact Nat.ne_of_gt (blk_lt (g := gb105) (o := .cells #[.int .i64 0, .int .i64 0, .int .i64 0, .int .i64 0] 32 (0, 0)) (by (with_reducible repeat (first | refine blk_drewN ?_ _ | refine blk_drew ?_ | refine blk_alloc ?_ _)); exact BK105.out)) : gb114 ≠ gb105)); clear HO108; clear BK105; clear HB; have HO108 := n0_; have BK105 := n1_; have HB := n2_; have BK114 := n3_; have GW114 := n4_; have GE114 := n5_; have NB105_114 := n6_; have NB114_105 := n7_; clear n0_ n1_ n2_ n3_ n4_ n5_ n6_ n7_; clear hb hbox hg; have hnb9 := NB114_105.out; have hnc9 := NB105_114.out; have hcz10_0 : w8.cell? ⟨gb114, 0, none⟩ = some (.int .i64 0) := (blk_cell BK114.out 0).trans rfl; have hcz10_1 : w8.cell? ⟨gb114, 1, none⟩ = some (.int .i64 0) := (blk_cell BK114.out 1).trans rfl; have hcz10_2 : w8.cell? ⟨gb114, 2, none⟩ = some (.int .i64 0) := (blk_cell BK114.out 2).trans rfl; have hcz10_3 : w8.cell? ⟨gb114, 3, none⟩ = some (.int .i64 0) := (blk_cell BK114.out 3).trans rfl; have hfz10_0 := blk_frozen BK114.out 0; have hfz10_1 := blk_frozen BK114.out 1; have hfz10_2 := blk_frozen BK114.out 2; have hfz10_3 := blk_frozen BK114.out 3; have hcz11_0 : w8.cell? ⟨gb105, 0, none⟩ = some (.int .i64 0) := (blk_cell BK105.out 0).trans rfl; have hcz11_1 : w8.cell? ⟨gb105, 1, none⟩ = some (.int .i64 0) := (blk_cell BK105.out 1).trans rfl; have hcz11_2 : w8.cell? ⟨gb105, 2, none⟩ = some (.int .i64 0) := (blk_cell BK105.out 2).trans rfl; have hcz11_3 : w8.cell? ⟨gb105, 3, none⟩ = some (.int .i64 0) := (blk_cell BK105.out 3).trans rfl; have hfz11_0 := blk_frozen BK105.out 0; have hfz11_1 := blk_frozen BK105.out 1; have hfz11_2 := blk_frozen BK105.out 2; have hfz11_3 := blk_frozen BK105.out 3))
  refine bodyPost_ret (results_ct rfl _ _ gb105 32 #[.int .i64 t109, .int .i64 t110, .int .i64 t111, .int .i64 t112] (0, 0) _ rfl (by (with_reducible repeat (first | refine blk_drewN ?_ _ | refine blk_drew ?_ | refine blk_alloc ?_ _)); refine blk_put (cs := #[.int .i64 t109, .int .i64 t110, .int .i64 t111, .int .i64 0]) ?_ 3 _ rfl; (with_reducible repeat (first | refine blk_drewN ?_ _ | refine blk_drew ?_ | refine blk_alloc ?_ _)); refine blk_put (cs := #[.int .i64 t109, .int .i64 t110, .int .i64 0, .int .i64 0]) ?_ 2 _ rfl; (with_reducible repeat (first | refine blk_drewN ?_ _ | refine blk_drew ?_ | refine blk_alloc ?_ _)); refine blk_put (cs := #[.int .i64 t109, .int .i64 0, .int .i64 0, .int .i64 0]) ?_ 1 _ rfl; (with_reducible repeat (first | refine blk_drewN ?_ _ | refine blk_drew ?_ | refine blk_alloc ?_ _)); refine blk_put (cs := #[.int .i64 0, .int .i64 0, .int .i64 0, .int .i64 0]) ?_ 0 _ rfl; (with_reducible repeat (first | refine blk_drewN ?_ _ | refine blk_drew ?_ | refine blk_alloc ?_ _)); refine blk_far ?_ NB105_114.out _; (with_reducible repeat (first | refine blk_drewN ?_ _ | refine blk_drew ?_ | refine blk_alloc ?_ _)); refine blk_far ?_ NB105_114.out _; (with_reducible repeat (first | refine blk_drewN ?_ _ | refine blk_drew ?_ | refine blk_alloc ?_ _)); refine blk_far ?_ NB105_114.out _; (with_reducible repeat (first | refine blk_drewN ?_ _ | refine blk_drew ?_ | refine blk_alloc ?_ _)); refine blk_far ?_ NB105_114.out _; (with_reducible repeat (first | refine blk_drewN ?_ _ | refine blk_drew ?_ | refine blk_alloc ?_ _)); exact BK105.out) Try.underlying32 rfl (by kernel_rfl)) rfl ?_
  exact ⟨by first | rfl | (simp [errW_none, errW_some] <;> rfl) | (simp [*, errW_none, errW_some] <;> rfl), by repeat (first | (with_reducible first | exact HB.out | apply below_alloc | apply Go.Proofs.Ytjicpadeplminaa.Ext.below_bytes | apply pw_below_drewN | apply below_drew1 | refine below_set ?_ GE105.out | refine below_set ?_ GE114.out) | exact HB.out)⟩

/-! ### laws_FnSixelRasterRead: function 5 -/
def laws_FnSixelRasterRead.j0 : Nat → List Int → Bool → Option (Bool)
  | 0, _, _ => none
  | k + 1, x0, x19 => if x19 = true then (some true) else (if ([] : List Int).length + x0.length < 140737488355328 then ((impl_DecodeRaster.f (([] : List Int) ++ x0)).bind fun bt119 => ((spec_SixelRasterIn.f x0).bind fun bt125 => ((impl_DecodeRaster.f ([34, 49, 59, 50] : List Int)).bind fun bt131 => (if (bt119.1 == bt125.1 && (bt119.2.1 == bt125.2.1 && (bt119.2.2.1 == bt125.2.2.1 && (bt119.2.2.2.1 == bt125.2.2.2.1)))) = true then (if bt119.2.2.2.2 = bt125.2.2.2.2 then (if bt131.2.2.2.2 = 4 then (some (bt131.1 == 1 && (bt131.2.1 == 2 && (bt131.2.2.1 == 0 && (bt131.2.2.2.1 == 0))))) else (some false)) else (some false)) else (some false))))) else (none))
def laws_FnSixelRasterRead.f (k : Nat) (l0 : List Int) : Option (Bool) := if (l0.length : Int) > 2147483647 then (some true) else (if (l0.length : Int) > 200 then (laws_FnSixelRasterRead.j0 k l0 true) else ((spec_FewDigits.f k l0).bind fun t115 => (laws_FnSixelRasterRead.j0 k l0 (!t115))))
theorem laws_FnSixelRasterRead.mono_l : ∀ k, (∀ y0 y1, LeO (laws_FnSixelRasterRead.j0 k y0 y1) (laws_FnSixelRasterRead.j0 (k + 1) y0 y1))
  | 0 => fun _ _ r h => by simp [laws_FnSixelRasterRead.j0] at h
  | k + 1 => by
    have ih0 := laws_FnSixelRasterRead.mono_l k
    · intro y0 y1
      unfold laws_FnSixelRasterRead.j0
      repeat' first
      | (with_reducible exact ih0 _ _)
      | (with_reducible exact spec_FewDigits.mono _ _)
      | (with_reducible exact LeO.refl _)
      | (with_reducible exact LeO.none _)
      | (with_reducible refine LeO.ite ?_ ?_)
      | (with_reducible refine LeO.bind ?_ (fun _ => ?_))
      | exact ih0 _ _
      | exact spec_FewDigits.mono _ _
      | exact LeO.none _
      | refine LeO.ite ?_ ?_
      | refine LeO.bind ?_ (fun _ => ?_)
theorem laws_FnSixelRasterRead.mono : ∀ a0 k, LeO (laws_FnSixelRasterRead.f k a0) (laws_FnSixelRasterRead.f (k + 1) a0) := by
  intro a0 k
  have ih0 := laws_FnSixelRasterRead.mono_l k
  unfold laws_FnSixelRasterRead.f
  repeat' first
      | (with_reducible exact ih0 _ _)
      | (with_reducible exact spec_FewDigits.mono _ _)
      | (with_reducible exact LeO.refl _)
      | (with_reducible exact LeO.none _)
      | (with_reducible refine LeO.ite ?_ ?_)
      | (with_reducible refine LeO.bind ?_ (fun _ => ?_))
      | exact ih0 _ _
      | exact spec_FewDigits.mono _ _
      | exact LeO.none _
      | refine LeO.ite ?_ ?_
      | refine LeO.bind ?_ (fun _ => ?_)
set_option maxHeartbeats 8000000 in
set_option maxRecDepth 100000 in
theorem laws_FnSixelRasterRead.calls (k : Nat) (A0 : Option Addr) (c0 : Nat) (l0 : List Int) (r : Bool) (w : World) (hr0 : Kd.C (Kd.int .u8) w A0 l0.length l0) (hc0 : l0.length ≤ c0) (h : laws_FnSixelRasterRead.f k l0 = some r) :
    Calls Try.prog 5 #[.slice A0 l0.length c0] w fun e w' => e = .returned (.bool r) ∧ Below w.heap.size w w' := by
  have hu32 := Try.underlying32
  have hu35 := Try.underlying35
  have ia_35_0 : ∀ (b_ : Nat) (w_ : World), (Instr.indexAt 35 (.pointer (some ⟨b_, 0, none⟩)) (.int .i64 0)).run Try.prog w_ = .ok (.pointer (some ⟨b_, 0, none⟩)) w_ := fun b_ w_ => by kernel_rfl
  have ia_35_1 : ∀ (b_ : Nat) (w_ : World), (Instr.indexAt 35 (.pointer (some ⟨b_, 0, none⟩)) (.int .i64 1)).run Try.prog w_ = .ok (.pointer (some ⟨b_, 1, none⟩)) w_ := fun b_ w_ => by kernel_rfl
  have ia_35_2 : ∀ (b_ : Nat) (w_ : World), (Instr.indexAt 35 (.pointer (some ⟨b_, 0, none⟩)) (.int .i64 2)).run Try.prog w_ = .ok (.pointer (some ⟨b_, 2, none⟩)) w_ := fun b_ w_ => by kernel_rfl
  have ia_35_3 : ∀ (b_ : Nat) (w_ : World), (Instr.indexAt 35 (.pointer (some ⟨b_, 0, none⟩)) (.int .i64 3)).run Try.prog w_ = .ok (.pointer (some ⟨b_, 3, none⟩)) w_ := fun b_ w_ => by kernel_rfl
  have kc_25 := fun (w : World) (C : Array Value) (n c : Nat) => Lib.run_convert_bytes_const (P := Try.prog) w 25 5 C n c Try.underlying25 Try.underlying5
  have kcn_25 := Go.Proofs.Ytjicpadeplminaa.Ext.conv_lit_drewN 25 5 Try.underlying25 Try.underlying5
  have kcd_25 := Go.Proofs.Ytjicpadeplminaa.Ext.conv_lit_drew 25 5 Try.underlying25 Try.underlying5
  have kcq_25 := Go.Proofs.Ytjicpadeplminaa.Ext.conv_lit_at 25 5 Try.underlying25 Try.underlying5
  have HR0 := Aside0.mk hr0
  have HC0 := Aside0.mk hc0
  clear hr0 hc0
  have HB := Aside0.mk (Below.refl w.heap.size w)
  have H : (if (l0.length : Int) > 2147483647 then (some true) else (if (l0.length : Int) > 200 then (laws_FnSixelRasterRead.j0 k l0 true) else ((spec_FewDigits.f k l0).bind fun t115 => (laws_FnSixelRasterRead.j0 k l0 (!t115))))) = some r := h
  clear h
  by_cases c2 : (l0.length : Int) > 2147483647
  · rw [if_pos c2] at H
    have c2b0 : decide (2147483647 < (l0.length : Int)) = true := decide_eq_true c2
    have c2b1 : decide (2147483647 < l0.length) = true := decide_eq_true (by omega)
    clear c2
    obtain rfl := Option.some.inj H
    go_enter Try.func5, Try.ntmps5
    go_wp2
    go_ret
    exact ⟨by first | rfl | (simp [errW_none, errW_some] <;> rfl) | (simp [*, errW_none, errW_some] <;> rfl), by repeat (first | (with_reducible first | exact HB.out | apply below_alloc | apply Go.Proofs.Ytjicpadeplminaa.Ext.below_bytes | apply pw_below_drewN | apply below_drew1) | exact HB.out)⟩
  · rw [if_neg c2] at H
    have c2b0 : decide (2147483647 < (l0.length : Int)) = false := decide_eq_false c2
    have c2b1 : decide (2147483647 < l0.length) = false := decide_eq_false (by omega)
    clear c2
    have HC3 := Aside0.mk H
    clear H
    go_enter Try.func5, Try.ntmps5
    go_upto_region 3 with (fail)
    go_cut [19] (fun v19 wc => ∃ (kq : Nat) (x19_2 : Bool), v19 = .bool x19_2 ∧ Aside0 (laws_FnSixelRasterRead.j0 kq l0 x19_2 = some r) ∧ Aside0 (kq ≤ k) ∧ Aside0 (Below w.heap.size w wc))
    case first =>
      have H := HC3.out
      clear HC3
      by_cases c4 : (l0.length : Int) > 200
      · rw [if_pos c4] at H
        have c4b0 : decide (200 < (l0.length : Int)) = true := decide_eq_true c4
        have c4b1 : decide (200 < l0.length) = true := decide_eq_true (by omega)
        clear c4
        (first | rw [c4b0] | (simp only [i64_w, i32_w]; rw [c4b0]) | skip)
        have H' := Aside0.mk H
        clear H
        go_wp2
        go_meet
        case rel => exact ⟨_, (true), (by first | rfl | (simp; done) | (simp [*]; done)), H', ⟨by first | omega | exact Nat.le_refl _⟩, ⟨by repeat (first | (with_reducible first | exact HB.out | apply below_alloc | apply Go.Proofs.Ytjicpadeplminaa.Ext.below_bytes | apply pw_below_drewN | apply below_drew1) | exact HB.out)⟩⟩
      · rw [if_neg c4] at H
        have c4b0 : decide (200 < (l0.length : Int)) = false := decide_eq_false c4
        have c4b1 : decide (200 < l0.length) = false := decide_eq_false (by omega)
        clear c4
        (first | rw [c4b0] | (simp only [i64_w, i32_w]; rw [c4b0]) | skip)
        replace H := Option.bind_eq_some_iff.mp H
        obtain ⟨t115, A50, H⟩ := H
        replace H : (laws_FnSixelRasterRead.j0 k l0 (!t115)) = some r := H
        have A5 := Aside0.mk A50
        clear A50
        have H' := Aside0.mk H
        clear H
        go_wp2_with (first | (go_at_call 8; (with_reducible refine (spec_FewDigits.calls k _ _ l0 t115 _ ?side1 ?side2 A5.out).mono ?_); (case side1 => repeat (first | exact (Kd.C_below HR0.out HB.out) | (with_reducible refine Kd.C_alloc ?_ _) | (with_reducible refine Kd.C_drewN ?_ _) | (with_reducible refine Kd.C_drew ?_))); (case side2 => exact HC0.out); rintro e w' ⟨rfl, ⟨nd, rfl⟩⟩))
        go_meet
        case rel => exact ⟨_, (!t115), (by first | rfl | (simp; done) | (simp [*]; done)), H', ⟨by first | omega | exact Nat.le_refl _⟩, ⟨by repeat (first | (with_reducible first | exact HB.out | apply below_alloc | apply Go.Proofs.Ytjicpadeplminaa.Ext.below_bytes | apply pw_below_drewN | apply below_drew1) | exact HB.out)⟩⟩
    case rest =>
      clear HC3
      try clear c2
      try clear c2b0
      try clear c2b1
      try clear p2
      try clear c4
      try clear c4b0
      try clear c4b1
      try clear c5
      obtain ⟨kq, x19_2, rfl, HA, HJ2, HB⟩ := hcut
      cases kq with
      | zero => exact absurd HA.out (by simp [laws_FnSixelRasterRead.j0])
      | succ kj2 =>
        have H := HA.out
        clear HA
        simp only [laws_FnSixelRasterRead.j0] at H
        by_cases c6 : x19_2 = true
        · subst c6
          have H1 : (some true) = some r := by rw [if_pos rfl] at H; exact H
          clear H
          have H := H1
          clear H1
          obtain rfl := Option.some.inj H
          go_wp2
          go_ret
          exact ⟨by first | rfl | (simp [errW_none, errW_some] <;> rfl) | (simp [*, errW_none, errW_some] <;> rfl), by repeat (first | (with_reducible first | exact HB.out | apply below_alloc | apply Go.Proofs.Ytjicpadeplminaa.Ext.below_bytes | apply pw_below_drewN | apply below_drew1) | exact HB.out)⟩
        · replace c6 := Bool.eq_false_iff.mpr c6
          subst c6
          have H1 : (if ([] : List Int).length + l0.length < 140737488355328 then ((impl_DecodeRaster.f (([] : List Int) ++ l0)).bind fun bt119 => ((spec_SixelRasterIn.f l0).bind fun bt125 => ((impl_DecodeRaster.f ([34, 49, 59, 50] : List Int)).bind fun bt131 => (if (bt119.1 == bt125.1 && (bt119.2.1 == bt125.2.1 && (bt119.2.2.1 == bt125.2.2.1 && (bt119.2.2.2.1 == bt125.2.2.2.1)))) = true then (if bt119.2.2.2.2 = bt125.2.2.2.2 then (if bt131.2.2.2.2 = 4 then (some (bt131.1 == 1 && (bt131.2.1 == 2 && (bt131.2.2.1 == 0 && (bt131.2.2.2.1 == 0))))) else (some false)) else (some false)) else (some false))))) else (none)) = some r := by rw [if_neg (show ¬ (false = true) by decide)] at H; exact H
          clear H
          have H := H1
          clear H1
          by_cases c7 : ([] : List Int).length + l0.length < 140737488355328
          · rw [if_pos c7] at H
            have LMc7 := Aside0.mk c7
            clear c7
            obtain ⟨y116, hy116⟩ : ∃ y_ : List Int, y_ = (([] : List Int) ++ l0) := ⟨_, rfl⟩
            replace H : ((impl_DecodeRaster.f y116).bind fun bt119 => ((spec_SixelRasterIn.f l0).bind fun bt125 => ((impl_DecodeRaster.f ([34, 49, 59, 50] : List Int)).bind fun bt131 => (if (bt119.1 == bt125.1 && (bt119.2.1 == bt125.2.1 && (bt119.2.2.1 == bt125.2.2.1 && (bt119.2.2.2.1 == bt125.2.2.2.1)))) = true then (if bt119.2.2.2.2 = bt125.2.2.2.2 then (if bt131.2.2.2.2 = 4 then (some (bt131.1 == 1 && (bt131.2.1 == 2 && (bt131.2.2.1 == 0 && (bt131.2.2.2.1 == 0))))) else (some false)) else (some false)) else (some false))))) = some r := by first | (rw [hy116]; with_reducible exact H) | (have H2_ := (Option.bind_some _ _).symm.trans H; rw [hy116]; with_reducible exact H2_) | (have H2_ := (Option.bind_some _ _).symm.trans H; with_reducible exact H2_) | with_reducible exact H | (rw [hy116]; exact H) | exact H
            have Ny116 := Aside0.mk hy116
            clear hy116
            replace H := Option.bind_eq_some_iff.mp H
            obtain ⟨⟨t119, t120, t121, t122, t123⟩, A80, H⟩ := H
            replace H : ((spec_SixelRasterIn.f l0).bind fun bt125 => ((impl_DecodeRaster.f ([34, 49, 59, 50] : List Int)).bind fun bt131 => (if (t119 == bt125.1 && (t120 == bt125.2.1 && (t121 == bt125.2.2.1 && (t122 == bt125.2.2.2.1)))) = true then (if t123 = bt125.2.2.2.2 then (if bt131.2.2.2.2 = 4 then (some (bt131.1 == 1 && (bt131.2.1 == 2 && (bt131.2.2.1 == 0 && (bt131.2.2.2.1 == 0))))) else (some false)) else (some false)) else (some false)))) = some r := H
            have A8 := Aside0.mk A80
            clear A80
            replace H := Option.bind_eq_some_iff.mp H
            obtain ⟨⟨t125, t126, t127, t128, t129⟩, A90, H⟩ := H
            replace H : ((impl_DecodeRaster.f ([34, 49, 59, 50] : List Int)).bind fun bt131 => (if (t119 == t125 && (t120 == t126 && (t121 == t127 && (t122 == t128)))) = true then (if t123 = t129 then (if bt131.2.2.2.2 = 4 then (some (bt131.1 == 1 && (bt131.2.1 == 2 && (bt131.2.2.1 == 0 && (bt131.2.2.2.1 == 0))))) else (some false)) else (some false)) else (some false))) = some r := H
            have A9 := Aside0.mk A90
            clear A90
            replace H := Option.bind_eq_some_iff.mp H
            obtain ⟨⟨t131, t132, t133, t134, t135⟩, A100, H⟩ := H
            replace H : (if (t119 == t125 && (t120 == t126 && (t121 == t127 && (t122 == t128)))) = true then (if t123 = t129 then (if t135 = 4 then (some (t131 == 1 && (t132 == 2 && (t133 == 0 && (t134 == 0))))) else (some false)) else (some false)) else (some false)) = some r := H
            have A10 := Aside0.mk A100
            clear A100
            by_cases c11 : (t119 == t125 && (t120 == t126 && (t121 == t127 && (t122 == t128)))) = true
            · rw [if_pos c11] at H
              have c11b0 : (t119 == t125 && (t120 == t126 && (t121 == t127 && (t122 == t128)))) = true := c11
              (try (have c11b1 : decide (t119 = t125 && (t120 == t126 && (t121 == t127 && (t122 == t128)))) = true := by simpa using c11))
              (try (have c11b2 : (t119 == t125 && (t120 == t126 && (t121 == t127 && (t122 == t128)))) = true := by simpa using c11))
              clear c11
              by_cases c12 : t123 = t129
              · rw [if_pos c12] at H
                have c12b0 : (t123 == t129) = true := beq_iff_eq.mpr c12
                have c12b1 : (t123 != t129) = false := bne_eq_false_iff_eq.mpr c12
                clear c12
                by_cases c13 : t135 = 4
                · rw [if_pos c13] at H
                  have c13b0 : (t135 == 4) = true := beq_iff_eq.mpr c13
                  have c13b1 : (t135 != 4) = false := bne_eq_false_iff_eq.mpr c13
                  clear c13
                  obtain rfl := Option.some.inj H
                  go_upto_region 6 with (first | ((with_reducible refine gate_builtin (b := .append) (xs := #[.const (.slice none 0 0), .tmp 21]) rfl ?_); at_builtin; refine Kd.R_append_rows (Kd.int .u8) (w0 := w) w.heap.size rfl (.const (.slice none 0 0)) (.tmp 21) 25 5 (.int .u8 0) 1 rfl Try.underlying25 info5 rfl (by decide) (by omega) (.slice none 0 0) ([] : List Int) l0 _ _ _ (fun _ => True) (fun _ => False) rfl rfl ?aO ?aR (fun _ _ h => h) (fun _ h => h.elim) ?aF ?aB ?aS ?aL ?_; (case aR => repeat (first | exact (Kd.C_below HR0.out HB.out) | (with_reducible refine Kd.C_alloc ?_ _) | (with_reducible refine Kd.C_drewN ?_ _) | (with_reducible refine Kd.C_drew ?_))); (case aB => exact (by repeat (first | (with_reducible first | exact HB.out | apply below_alloc | apply Go.Proofs.Ytjicpadeplminaa.Ext.below_bytes | apply pw_below_drewN | apply below_drew1) | exact HB.out))); (case aF => exact (fun _ _ => trivial)); (case aO => exact ((Kd.R_nil _ _ _ _ (fun _ => True)))); (case aS => exact (below_size (by repeat (first | (with_reducible first | exact HB.out | apply below_alloc | apply Go.Proofs.Ytjicpadeplminaa.Ext.below_bytes | apply pw_below_drewN | apply below_drew1) | exact HB.out)))); (case aL => have := LMc7.out; omega); intro v117 w14 ho hb hg hat; rw [← Ny116.out] at ho; have n0_ := Aside0.mk (hb); have n1_ := Aside0.mk (ho); clear HB; have HB := n0_; have HO118 := n1_; clear n0_ n1_; clear ho hb hg hat; obtain ⟨Ao15, co15, eo15⟩ := Kd.R_slice HO118.out; subst eo15) | ((with_reducible refine gate_callee (f := 11) rfl ?_); refine goesL_ (some 23) rfl rfl Try.func11 (by kernel_rfl) rfl #[.slice Ao15 y116.length co15] rfl (by (try simp only [List.map_toArray, List.map_cons, List.map_nil]); first | done | rfl | (simp only [List.length_drop, List.length_take]; rfl) | (simp [Act.eval, *]; done)) ?_; (with_reducible refine (impl_DecodeRaster.calls _ _ y116 t119 t120 t121 t122 t123 _ ?side1 ?side2 A8.out).mono ?_); (case side1 => repeat (first | exact (Kd.R_reads' HO118.out).2.2 | (with_reducible refine Kd.C_alloc ?_ _) | (with_reducible refine Kd.C_drewN ?_ _) | (with_reducible refine Kd.C_drew ?_))); (case side2 => exact (Kd.R_reads' HO118.out).2.1); rintro e w16 ⟨rfl, hb⟩; refine ⟨_, rfl, ?_⟩; have n0_ := Aside0.mk (Kd.R_below (by (with_reducible repeat (first | apply Kd.R_alloc | apply Go.Proofs.Ytjicpadeplminaa.Ext.R_bytes | apply Kd.R_drewN | apply Kd.R_drew)); exact HO118.out) hb); have n1_ := Aside0.mk (below_step (by repeat (first | (with_reducible first | exact HB.out | apply below_alloc | apply Go.Proofs.Ytjicpadeplminaa.Ext.below_bytes | apply pw_below_drewN | apply below_drew1) | exact HB.out)) hb); clear HO118; clear HB; have HO118 := n0_; have HB := n1_; clear n0_ n1_; (try clear hb); (try clear hb2); (try clear hk); (try clear hi)))
                  go_upto_region 7 with (go_at_call 12; (with_reducible refine (spec_SixelRasterIn.calls _ _ l0 t125 t126 t127 t128 t129 _ ?s1 ?s2 A9.out).mono ?_); (case s1 => exact Kd.C_below HR0.out (HB.out.alloc HB.out.size _)); (case s2 => exact HC0.out); rintro e wB ⟨rfl, hb⟩; have kA := (hb.block w16.heap.size (by simp)).trans (heap_alloc_new w16 (.cells #[.int .i64 t119, .int .i64 t120, .int .i64 t121, .int .i64 t122] 32)); have HSA := Aside0.mk (Nat.lt_of_lt_of_le (by simp : w16.heap.size < (w16.alloc (.cells #[.int .i64 t119, .int .i64 t120, .int .i64 t121, .int .i64 t122] 32)).heap.size) hb.size); have HKA := Aside0.mk kA; have HBB := Aside0.mk ((HB.out.alloc HB.out.size (.cells #[.int .i64 t119, .int .i64 t120, .int .i64 t121, .int .i64 t122] 32)).trans (hb.mono (Nat.le_trans HB.out.size (by simp)))); clear kA hb)
                  go_upto_region 8 with (go_at_call 11; (refine (impl_DecodeRaster.calls _ _ ([34, 49, 59, 50] : List Int) t131 t132 t133 t134 t135 _ ?side1 ?side2 A10.out).mono ?_); (case side1 => exact Go.Proofs.Ytjicpadeplminaa.Ext.C_lit_at _ ([34, 49, 59, 50] : List Int) _ _ _ _ (by simp) rfl (by decide)); (case side2 => exact (by decide)); rintro e wC ⟨rfl, hb⟩)
                  have hsA := HSA.out
                  have hsz := hb.size
                  have kB := (hb.block wB.heap.size (by simp; omega)).trans ((Below.heap_alloc _ _ wB.heap.size (by simp)).trans (heap_alloc_new wB (.cells #[.int .i64 t125, .int .i64 t126, .int .i64 t127, .int .i64 t128] 35)))
                  have kA := (hb.block w16.heap.size (by simp; omega)).trans ((Below.heap_alloc _ _ w16.heap.size (by simp; omega)).trans ((Below.heap_alloc wB (.cells #[.int .i64 t125, .int .i64 t126, .int .i64 t127, .int .i64 t128] 35) w16.heap.size hsA).trans HKA.out))
                  have gB : wB.heap.size < wC.heap.size := by simp at hsz; omega
                  have gA : w16.heap.size < wC.heap.size := Nat.lt_trans hsA gB
                  have HBC := Aside0.mk (((HBB.out.alloc HBB.out.size (.cells #[.int .i64 t125, .int .i64 t126, .int .i64 t127, .int .i64 t128] 35)).alloc (Nat.le_trans HBB.out.size (by simp)) _).trans (hb.mono (Nat.le_trans HBB.out.size (by simp; omega))))
                  have fA0 : wC.cell? ⟨w16.heap.size, 0, none⟩ = some (.int .i64 t119) := (by simp [World.cell?, kA])
                  have fA1 : wC.cell? ⟨w16.heap.size, 1, none⟩ = some (.int .i64 t120) := (by simp [World.cell?, kA])
                  have fA2 : wC.cell? ⟨w16.heap.size, 2, none⟩ = some (.int .i64 t121) := (by simp [World.cell?, kA])
                  have fA3 : wC.cell? ⟨w16.heap.size, 3, none⟩ = some (.int .i64 t122) := (by simp [World.cell?, kA])
                  have fB0 : wC.cell? ⟨wB.heap.size, 0, none⟩ = some (.int .i64 t125) := (by simp [World.cell?, kB])
                  have fB1 : wC.cell? ⟨wB.heap.size, 1, none⟩ = some (.int .i64 t126) := (by simp [World.cell?, kB])
                  have fB2 : wC.cell? ⟨wB.heap.size, 2, none⟩ = some (.int .i64 t127) := (by simp [World.cell?, kB])
                  have fB3 : wC.cell? ⟨wB.heap.size, 3, none⟩ = some (.int .i64 t128) := (by simp [World.cell?, kB])
                  clear kA kB hb hsz hsA
                  go_wp2
                  go_ret
                  exact ⟨by first | rfl | (simp; done) | (simp [*]; done), by first | exact HBC.out.alloc HBC.out.size _ | exact HBC.out⟩
                · rw [if_neg c13] at H
                  have c13b0 : (t135 == 4) = false := beq_eq_false_iff_ne.mpr c13
                  have c13b1 : (t135 != 4) = true := bne_iff_ne.mpr c13
                  obtain rfl := Option.some.inj H
                  go_upto_region 6 with (first | ((with_reducible refine gate_builtin (b := .append) (xs := #[.const (.slice none 0 0), .tmp 21]) rfl ?_); at_builtin; refine Kd.R_append_rows (Kd.int .u8) (w0 := w) w.heap.size rfl (.const (.slice none 0 0)) (.tmp 21) 25 5 (.int .u8 0) 1 rfl Try.underlying25 info5 rfl (by decide) (by omega) (.slice none 0 0) ([] : List Int) l0 _ _ _ (fun _ => True) (fun _ => False) rfl rfl ?aO ?aR (fun _ _ h => h) (fun _ h => h.elim) ?aF ?aB ?aS ?aL ?_; (case aR => repeat (first | exact (Kd.C_below HR0.out HB.out) | (with_reducible refine Kd.C_alloc ?_ _) | (with_reducible refine Kd.C_drewN ?_ _) | (with_reducible refine Kd.C_drew ?_))); (case aB => exact (by repeat (first | (with_reducible first | exact HB.out | apply below_alloc | apply Go.Proofs.Ytjicpadeplminaa.Ext.below_bytes | apply pw_below_drewN | apply below_drew1) | exact HB.out))); (case aF => exact (fun _ _ => trivial)); (case aO => exact ((Kd.R_nil _ _ _ _ (fun _ => True)))); (case aS => exact (below_size (by repeat (first | (with_reducible first | exact HB.out | apply below_alloc | apply Go.Proofs.Ytjicpadeplminaa.Ext.below_bytes | apply pw_below_drewN | apply below_drew1) | exact HB.out)))); (case aL => have := LMc7.out; omega); intro v117 w30 ho hb hg hat; rw [← Ny116.out] at ho; have n0_ := Aside0.mk (hb); have n1_ := Aside0.mk (ho); clear HB; have HB := n0_; have HO118 := n1_; clear n0_ n1_; clear ho hb hg hat; obtain ⟨Ao31, co31, eo31⟩ := Kd.R_slice HO118.out; subst eo31) | ((with_reducible refine gate_callee (f := 11) rfl ?_); refine goesL_ (some 23) rfl rfl Try.func11 (by kernel_rfl) rfl #[.slice Ao31 y116.length co31] rfl (by (try simp only [List.map_toArray, List.map_cons, List.map_nil]); first | done | rfl | (simp only [List.length_drop, List.length_take]; rfl) | (simp [Act.eval, *]; done)) ?_; (with_reducible refine (impl_DecodeRaster.calls _ _ y116 t119 t120 t121 t122 t123 _ ?side1 ?side2 A8.out).mono ?_); (case side1 => repeat (first | exact (Kd.R_reads' HO118.out).2.2 | (with_reducible refine Kd.C_alloc ?_ _) | (with_reducible refine Kd.C_drewN ?_ _) | (with_reducible refine Kd.C_drew ?_))); (case side2 => exact (Kd.R_reads' HO118.out).2.1); rintro e w32 ⟨rfl, hb⟩; refine ⟨_, rfl, ?_⟩; have n0_ := Aside0.mk (Kd.R_below (by (with_reducible repeat (first | apply Kd.R_alloc | apply Go.Proofs.Ytjicpadeplminaa.Ext.R_bytes | apply Kd.R_drewN | apply Kd.R_drew)); exact HO118.out) hb); have n1_ := Aside0.mk (below_step (by repeat (first | (with_reducible first | exact HB.out | apply below_alloc | apply Go.Proofs.Ytjicpadeplminaa.Ext.below_bytes | apply pw_below_drewN | apply below_drew1) | exact HB.out)) hb); clear HO118; clear HB; have HO118 := n0_; have HB := n1_; clear n0_ n1_; (try clear hb); (try clear hb2); (try clear hk); (try clear hi)))
                  go_upto_region 7 with (go_at_call 12; (with_reducible refine (spec_SixelRasterIn.calls _ _ l0 t125 t126 t127 t128 t129 _ ?s1 ?s2 A9.out).mono ?_); (case s1 => exact Kd.C_below HR0.out (HB.out.alloc HB.out.size _)); (case s2 => exact HC0.out); rintro e wB ⟨rfl, hb⟩; have kA := (hb.block w32.heap.size (by simp)).trans (heap_alloc_new w32 (.cells #[.int .i64 t119, .int .i64 t120, .int .i64 t121, .int .i64 t122] 32)); have HSA := Aside0.mk (Nat.lt_of_lt_of_le (by simp : w32.heap.size < (w32.alloc (.cells #[.int .i64 t119, .int .i64 t120, .int .i64 t121, .int .i64 t122] 32)).heap.size) hb.size); have HKA := Aside0.mk kA; have HBB := Aside0.mk ((HB.out.alloc HB.out.size (.cells #[.int .i64 t119, .int .i64 t120, .int .i64 t121, .int .i64 t122] 32)).trans (hb.mono (Nat.le_trans HB.out.size (by simp)))); clear kA hb)
                  go_upto_region 8 with (go_at_call 11; (refine (impl_DecodeRaster.calls _ _ ([34, 49, 59, 50] : List Int) t131 t132 t133 t134 t135 _ ?side1 ?side2 A10.out).mono ?_); (case side1 => exact Go.Proofs.Ytjicpadeplminaa.Ext.C_lit_at _ ([34, 49, 59, 50] : List Int) _ _ _ _ (by simp) rfl (by decide)); (case side2 => exact (by decide)); rintro e wC ⟨rfl, hb⟩)
                  have hsA := HSA.out
                  have hsz := hb.size
                  have kB := (hb.block wB.heap.size (by simp; omega)).trans ((Below.heap_alloc _ _ wB.heap.size (by simp)).trans (heap_alloc_new wB (.cells #[.int .i64 t125, .int .i64 t126, .int .i64 t127, .int .i64 t128] 35)))
                  have kA := (hb.block w32.heap.size (by simp; omega)).trans ((Below.heap_alloc _ _ w32.heap.size (by simp; omega)).trans ((Below.heap_alloc wB (.cells #[.int .i64 t125, .int .i64 t126, .int .i64 t127, .int .i64 t128] 35) w32.heap.size hsA).trans HKA.out))
                  have gB : wB.heap.size < wC.heap.size := by simp at hsz; omega
                  have gA : w32.heap.size < wC.heap.size := Nat.lt_trans hsA gB
                  have HBC := Aside0.mk (((HBB.out.alloc HBB.out.size (.cells #[.int .i64 t125, .int .i64 t126, .int .i64 t127, .int .i64 t128] 35)).alloc (Nat.le_trans HBB.out.size (by simp)) _).trans (hb.mono (Nat.le_trans HBB.out.size (by simp; omega))))
                  have fA0 : wC.cell? ⟨w32.heap.size, 0, none⟩ = some (.int .i64 t119) := (by simp [World.cell?, kA])
                  have fA1 : wC.cell? ⟨w32.heap.size, 1, none⟩ = some (.int .i64 t120) := (by simp [World.cell?, kA])
                  have fA2 : wC.cell? ⟨w32.heap.size, 2, none⟩ = some (.int .i64 t121) := (by simp [World.cell?, kA])
                  have fA3 : wC.cell? ⟨w32.heap.size, 3, none⟩ = some (.int .i64 t122) := (by simp [World.cell?, kA])
                  have fB0 : wC.cell? ⟨wB.heap.size, 0, none⟩ = some (.int .i64 t125) := (by simp [World.cell?, kB])
                  have fB1 : wC.cell? ⟨wB.heap.size, 1, none⟩ = some (.int .i64 t126) := (by simp [World.cell?, kB])
                  have fB2 : wC.cell? ⟨wB.heap.size, 2, none⟩ = some (.int .i64 t127) := (by simp [World.cell?, kB])
                  have fB3 : wC.cell? ⟨wB.heap.size, 3, none⟩ = some (.int .i64 t128) := (by simp [World.cell?, kB])
                  clear kA kB hb hsz hsA
                  go_wp2
                  go_ret
                  exact ⟨by first | rfl | (simp; done) | (simp [*]; done), by first | exact HBC.out.alloc HBC.out.size _ | exact HBC.out⟩
              · rw [if_neg c12] at H
                have c12b0 : (t123 == t129) = false := beq_eq_false_iff_ne.mpr c12
                have c12b1 : (t123 != t129) = true := bne_iff_ne.mpr c12
                obtain rfl := Option.some.inj H
                go_upto_region 6 with (first | ((with_reducible refine gate_builtin (b := .append) (xs := #[.const (.slice none 0 0), .tmp 21]) rfl ?_); at_builtin; refine Kd.R_append_rows (Kd.int .u8) (w0 := w) w.heap.size rfl (.const (.slice none 0 0)) (.tmp 21) 25 5 (.int .u8 0) 1 rfl Try.underlying25 info5 rfl (by decide) (by omega) (.slice none 0 0) ([] : List Int) l0 _ _ _ (fun _ => True) (fun _ => False) rfl rfl ?aO ?aR (fun _ _ h => h) (fun _ h => h.elim) ?aF ?aB ?aS ?aL ?_; (case aR => repeat (first | exact (Kd.C_below HR0.out HB.out) | (with_reducible refine Kd.C_alloc ?_ _) | (with_reducible refine Kd.C_drewN ?_ _) | (with_reducible refine Kd.C_drew ?_))); (case aB => exact (by repeat (first | (with_reducible first | exact HB.out | apply below_alloc | apply Go.Proofs.Ytjicpadeplminaa.Ext.below_bytes | apply pw_below_drewN | apply below_drew1) | exact HB.out))); (case aF => exact (fun _ _ => trivial)); (case aO => exact ((Kd.R_nil _ _ _ _ (fun _ => True)))); (case aS => exact (below_size (by repeat (first | (with_reducible first | exact HB.out | apply below_alloc | apply Go.Proofs.Ytjicpadeplminaa.Ext.below_bytes | apply pw_below_drewN | apply below_drew1) | exact HB.out)))); (case aL => have := LMc7.out; omega); intro v117 w46 ho hb hg hat; rw [← Ny116.out] at ho; have n0_ := Aside0.mk (hb); have n1_ := Aside0.mk (ho); clear HB; have HB := n0_; have HO118 := n1_; clear n0_ n1_; clear ho hb hg hat; obtain ⟨Ao47, co47, eo47⟩ := Kd.R_slice HO118.out; subst eo47) | ((with_reducible refine gate_callee (f := 11) rfl ?_); refine goesL_ (some 23) rfl rfl Try.func11 (by kernel_rfl) rfl #[.slice Ao47 y116.length co47] rfl (by (try simp only [List.map_toArray, List.map_cons, List.map_nil]); first | done | rfl | (simp only [List.length_drop, List.length_take]; rfl) | (simp [Act.eval, *]; done)) ?_; (with_reducible refine (impl_DecodeRaster.calls _ _ y116 t119 t120 t121 t122 t123 _ ?side1 ?side2 A8.out).mono ?_); (case side1 => repeat (first | exact (Kd.R_reads' HO118.out).2.2 | (with_reducible refine Kd.C_alloc ?_ _) | (with_reducible refine Kd.C_drewN ?_ _) | (with_reducible refine Kd.C_drew ?_))); (case side2 => exact (Kd.R_reads' HO118.out).2.1); rintro e w48 ⟨rfl, hb⟩; refine ⟨_, rfl, ?_⟩; have n0_ := Aside0.mk (Kd.R_below (by (with_reducible repeat (first | apply Kd.R_alloc | apply Go.Proofs.Ytjicpadeplminaa.Ext.R_bytes | apply Kd.R_drewN | apply Kd.R_drew)); exact HO118.out) hb); have n1_ := Aside0.mk (below_step (by repeat (first | (with_reducible first | exact HB.out | apply below_alloc | apply Go.Proofs.Ytjicpadeplminaa.Ext.below_bytes | apply pw_below_drewN | apply below_drew1) | exact HB.out)) hb); clear HO118; clear HB; have HO118 := n0_; have HB := n1_; clear n0_ n1_; (try clear hb); (try clear hb2); (try clear hk); (try clear hi)))
                go_upto_region 7 with (go_at_call 12; (with_reducible refine (spec_SixelRasterIn.calls _ _ l0 t125 t126 t127 t128 t129 _ ?s1 ?s2 A9.out).mono ?_); (case s1 => exact Kd.C_below HR0.out (HB.out.alloc HB.out.size _)); (case s2 => exact HC0.out); rintro e wB ⟨rfl, hb⟩; have kA := (hb.block w48.heap.size (by simp)).trans (heap_alloc_new w48 (.cells #[.int .i64 t119, .int .i64 t120, .int .i64 t121, .int .i64 t122] 32)); have HSA := Aside0.mk (Nat.lt_of_lt_of_le (by simp : w48.heap.size < (w48.alloc (.cells #[.int .i64 t119, .int .i64 t120, .int .i64 t121, .int .i64 t122] 32)).heap.size) hb.size); have HKA := Aside0.mk kA; have HBB := Aside0.mk ((HB.out.alloc HB.out.size (.cells #[.int .i64 t119, .int .i64 t120, .int .i64 t121, .int .i64 t122] 32)).trans (hb.mono (Nat.le_trans HB.out.size (by simp)))); clear kA hb)
                go_upto_region 8 with (go_at_call 11; (refine (impl_DecodeRaster.calls _ _ ([34, 49, 59, 50] : List Int) t131 t132 t133 t134 t135 _ ?side1 ?side2 A10.out).mono ?_); (case side1 => exact Go.Proofs.Ytjicpadeplminaa.Ext.C_lit_at _ ([34, 49, 59, 50] : List Int) _ _ _ _ (by simp) rfl (by decide)); (case side2 => exact (by decide)); rintro e wC ⟨rfl, hb⟩)
                have hsA := HSA.out
                have hsz := hb.size
                have kB := (hb.block wB.heap.size (by simp; omega)).trans ((Below.heap_alloc _ _ wB.heap.size (by simp)).trans (heap_alloc_new wB (.cells #[.int .i64 t125, .int .i64 t126, .int .i64 t127, .int .i64 t128] 35)))
                have kA := (hb.block w48.heap.size (by simp; omega)).trans ((Below.heap_alloc _ _ w48.heap.size (by simp; omega)).trans ((Below.heap_alloc wB (.cells #[.int .i64 t125, .int .i64 t126, .int .i64 t127, .int .i64 t128] 35) w48.heap.size hsA).trans HKA.out))
                have gB : wB.heap.size < wC.heap.size := by simp at hsz; omega
                have gA : w48.heap.size < wC.heap.size := Nat.lt_trans hsA gB
                have HBC := Aside0.mk (((HBB.out.alloc HBB.out.size (.cells #[.int .i64 t125, .int .i64 t126, .int .i64 t127, .int .i64 t128] 35)).alloc (Nat.le_trans HBB.out.size (by simp)) _).trans (hb.mono (Nat.le_trans HBB.out.size (by simp; omega))))
                have fA0 : wC.cell? ⟨w48.heap.size, 0, none⟩ = some (.int .i64 t119) := (by simp [World.cell?, kA])
                have fA1 : wC.cell? ⟨w48.heap.size, 1, none⟩ = some (.int .i64 t120) := (by simp [World.cell?, kA])
                have fA2 : wC.cell? ⟨w48.heap.size, 2, none⟩ = some (.int .i64 t121) := (by simp [World.cell?, kA])
                have fA3 : wC.cell? ⟨w48.heap.size, 3, none⟩ = some (.int .i64 t122) := (by simp [World.cell?, kA])
                have fB0 : wC.cell? ⟨wB.heap.size, 0, none⟩ = some (.int .i64 t125) := (by simp [World.cell?, kB])
                have fB1 : wC.cell? ⟨wB.heap.size, 1, none⟩ = some (.int .i64 t126) := (by simp [World.cell?, kB])
                have fB2 : wC.cell? ⟨wB.heap.size, 2, none⟩ = some (.int .i64 t127) := (by simp [World.cell?, kB])
                have fB3 : wC.cell? ⟨wB.heap.size, 3, none⟩ = some (.int .i64 t128) := (by simp [World.cell?, kB])
                clear kA kB hb hsz hsA
                go_wp2
                go_ret
                exact ⟨by first | rfl | (simp; done) | (simp [*]; done), by first | exact HBC.out.alloc HBC.out.size _ | exact HBC.out⟩
            · rw [if_neg c11] at H
              have c11b0 : (t119 == t125 && (t120 == t126 && (t121 == t127 && (t122 == t128)))) = false := by simpa using c11
              (try (have c11b1 : decide (t119 = t125 && (t120 == t126 && (t121 == t127 && (t122 == t128)))) = false := by simpa using c11))
              (try (have c11b2 : (t119 == t125 && (t120 == t126 && (t121 == t127 && (t122 == t128)))) = false := by simpa using c11))
              (try (have c11b3 : ¬ (t119 = t125 && (t120 == t126 && (t121 == t127 && (t122 == t128)))) := by simpa using c11))
              clear c11
              obtain rfl := Option.some.inj H
              go_upto_region 6 with (first | ((with_reducible refine gate_builtin (b := .append) (xs := #[.const (.slice none 0 0), .tmp 21]) rfl ?_); at_builtin; refine Kd.R_append_rows (Kd.int .u8) (w0 := w) w.heap.size rfl (.const (.slice none 0 0)) (.tmp 21) 25 5 (.int .u8 0) 1 rfl Try.underlying25 info5 rfl (by decide) (by omega) (.slice none 0 0) ([] : List Int) l0 _ _ _ (fun _ => True) (fun _ => False) rfl rfl ?aO ?aR (fun _ _ h => h) (fun _ h => h.elim) ?aF ?aB ?aS ?aL ?_; (case aR => repeat (first | exact (Kd.C_below HR0.out HB.out) | (with_reducible refine Kd.C_alloc ?_ _) | (with_reducible refine Kd.C_drewN ?_ _) | (with_reducible refine Kd.C_drew ?_))); (case aB => exact (by repeat (first | (with_reducible first | exact HB.out | apply below_alloc | apply Go.Proofs.Ytjicpadeplminaa.Ext.below_bytes | apply pw_below_drewN | apply below_drew1) | exact HB.out))); (case aF => exact (fun _ _ => trivial)); (case aO => exact ((Kd.R_nil _ _ _ _ (fun _ => True)))); (case aS => exact (below_size (by repeat (first | (with_reducible first | exact HB.out | apply below_alloc | apply Go.Proofs.Ytjicpadeplminaa.Ext.below_bytes | apply pw_below_drewN | apply below_drew1) | exact HB.out)))); (case aL => have := LMc7.out; omega); intro v117 w62 ho hb hg hat; rw [← Ny116.out] at ho; have n0_ := Aside0.mk (hb); have n1_ := Aside0.mk (ho); clear HB; have HB := n0_; have HO118 := n1_; clear n0_ n1_; clear ho hb hg hat; obtain ⟨Ao63, co63, eo63⟩ := Kd.R_slice HO118.out; subst eo63) | ((with_reducible refine gate_callee (f := 11) rfl ?_); refine goesL_ (some 23) rfl rfl Try.func11 (by kernel_rfl) rfl #[.slice Ao63 y116.length co63] rfl (by (try simp only [List.map_toArray, List.map_cons, List.map_nil]); first | done | rfl | (simp only [List.length_drop, List.length_take]; rfl) | (simp [Act.eval, *]; done)) ?_; (with_reducible refine (impl_DecodeRaster.calls _ _ y116 t119 t120 t121 t122 t123 _ ?side1 ?side2 A8.out).mono ?_); (case side1 => repeat (first | exact (Kd.R_reads' HO118.out).2.2 | (with_reducible refine Kd.C_alloc ?_ _) | (with_reducible refine Kd.C_drewN ?_ _) | (with_reducible refine Kd.C_drew ?_))); (case side2 => exact (Kd.R_reads' HO118.out).2.1); rintro e w64 ⟨rfl, hb⟩; refine ⟨_, rfl, ?_⟩; have n0_ := Aside0.mk (Kd.R_below (by (with_reducible repeat (first | apply Kd.R_alloc | apply Go.Proofs.Ytjicpadeplminaa.Ext.R_bytes | apply Kd.R_drewN | apply Kd.R_drew)); exact HO118.out) hb); have n1_ := Aside0.mk (below_step (by repeat (first | (with_reducible first | exact HB.out | apply below_alloc | apply Go.Proofs.Ytjicpadeplminaa.Ext.below_bytes | apply pw_below_drewN | apply below_drew1) | exact HB.out)) hb); clear HO118; clear HB; have HO118 := n0_; have HB := n1_; clear n0_ n1_; (try clear hb); (try clear hb2); (try clear hk); (try clear hi)))
              go_upto_region 7 with (go_at_call 12; (with_reducible refine (spec_SixelRasterIn.calls _ _ l0 t125 t126 t127 t128 t129 _ ?s1 ?s2 A9.out).mono ?_); (case s1 => exact Kd.C_below HR0.out (HB.out.alloc HB.out.size _)); (case s2 => exact HC0.out); rintro e wB ⟨rfl, hb⟩; have kA := (hb.block w64.heap.size (by simp)).trans (heap_alloc_new w64 (.cells #[.int .i64 t119, .int .i64 t120, .int .i64 t121, .int .i64 t122] 32)); have HSA := Aside0.mk (Nat.lt_of_lt_of_le (by simp : w64.heap.size < (w64.alloc (.cells #[.int .i64 t119, .int .i64 t120, .int .i64 t121, .int .i64 t122] 32)).heap.size) hb.size); have HKA := Aside0.mk kA; have HBB := Aside0.mk ((HB.out.alloc HB.out.size (.cells #[.int .i64 t119, .int .i64 t120, .int .i64 t121, .int .i64 t122] 32)).trans (hb.mono (Nat.le_trans HB.out.size (by simp)))); clear kA hb)
              go_upto_region 8 with (go_at_call 11; (refine (impl_DecodeRaster.calls _ _ ([34, 49, 59, 50] : List Int) t131 t132 t133 t134 t135 _ ?side1 ?side2 A10.out).mono ?_); (case side1 => exact Go.Proofs.Ytjicpadeplminaa.Ext.C_lit_at _ ([34, 49, 59, 50] : List Int) _ _ _ _ (by simp) rfl (by decide)); (case side2 => exact (by decide)); rintro e wC ⟨rfl, hb⟩)
              have hsA := HSA.out
              have hsz := hb.size
              have kB := (hb.block wB.heap.size (by simp; omega)).trans ((Below.heap_alloc _ _ wB.heap.size (by simp)).trans (heap_alloc_new wB (.cells #[.int .i64 t125, .int .i64 t126, .int .i64 t127, .int .i64 t128] 35)))
              have kA := (hb.block w64.heap.size (by simp; omega)).trans ((Below.heap_alloc _ _ w64.heap.size (by simp; omega)).trans ((Below.heap_alloc wB (.cells #[.int .i64 t125, .int .i64 t126, .int .i64 t127, .int .i64 t128] 35) w64.heap.size hsA).trans HKA.out))
              have gB : wB.heap.size < wC.heap.size := by simp at hsz; omega
              have gA : w64.heap.size < wC.heap.size := Nat.lt_trans hsA gB
              have HBC := Aside0.mk (((HBB.out.alloc HBB.out.size (.cells #[.int .i64 t125, .int .i64 t126, .int .i64 t127, .int .i64 t128] 35)).alloc (Nat.le_trans HBB.out.size (by simp)) _).trans (hb.mono (Nat.le_trans HBB.out.size (by simp; omega))))
              have fA0 : wC.cell? ⟨w64.heap.size, 0, none⟩ = some (.int .i64 t119) := (by simp [World.cell?, kA])
              have fA1 : wC.cell? ⟨w64.heap.size, 1, none⟩ = some (.int .i64 t120) := (by simp [World.cell?, kA])
              have fA2 : wC.cell? ⟨w64.heap.size, 2, none⟩ = some (.int .i64 t121) := (by simp [World.cell?, kA])
              have fA3 : wC.cell? ⟨w64.heap.size, 3, none⟩ = some (.int .i64 t122) := (by simp [World.cell?, kA])
              have fB0 : wC.cell? ⟨wB.heap.size, 0, none⟩ = some (.int .i64 t125) := (by simp [World.cell?, kB])
              have fB1 : wC.cell? ⟨wB.heap.size, 1, none⟩ = some (.int .i64 t126) := (by simp [World.cell?, kB])
              have fB2 : wC.cell? ⟨wB.heap.size, 2, none⟩ = some (.int .i64 t127) := (by simp [World.cell?, kB])
              have fB3 : wC.cell? ⟨wB.heap.size, 3, none⟩ = some (.int .i64 t128) := (by simp [World.cell?, kB])
              clear kA kB hb hsz hsA
              go_wp2
              go_ret
              exact ⟨by first | rfl | (simp; done) | (simp [*]; done), by first | exact HBC.out.alloc HBC.out.size _ | exact HBC.out⟩
          · rw [if_neg c7] at H
            exact absurd H (by simp)

/-- THE ONE PURE STATEMENT of laws_FnSixelRasterRead: yours. -/
def laws_FnSixelRasterRead.Pure : Prop := ∀ (l0 : List Int), l0.length ≤ maxLen → l0.length * 1 ≤ 140737488351232 → (∀ x ∈ l0, (Lit.int .u8 x).wf = true) → ∃ k, laws_FnSixelRasterRead.f k l0 = some true
theorem laws_FnSixelRasterRead.walk (P : laws_FnSixelRasterRead.Pure) (a0 : Option Addr) (len0 cap0 : Nat) (z0 : List Int) (w : World) (w0 : (a0 = none ∧ len0 = 0 ∧ cap0 = 0 ∧ z0 = []) ∨ ∃ x, a0 = some x ∧ len0 ≤ cap0 ∧ cap0 ≤ maxLen ∧ z0.length = cap0 ∧ (∀ i, i < z0.length → w.cell? (x.add i) = some (.int .u8 (z0.getD i 0))) ∧ ∀ n ∈ z0, (Lit.int .u8 n).wf = true) (y0 : len0 * 1 ≤ 140737488351232) :
    Calls Try.prog 5 #[.slice a0 len0 cap0] w fun e w' => e = .returned (.bool true) ∧ Below w.heap.size w w' := by
  obtain ⟨l0, rfl, hr0, hm0, hw0, hc0⟩ := ReadsInt.ofRowC w0
  obtain ⟨k, h⟩ := P l0 hm0 y0 hw0
  refine (laws_FnSixelRasterRead.calls k _ _ l0 true w (Kd.C_of_reads (d := (0 : Int)) (h1 := fun _ => rfl) hr0) hc0 h).mono ?_
  rintro e w' ⟨rfl, hd⟩
  exact ⟨rfl, hd⟩

/-! ### impl_DecodeColor: function 13 -/
def impl_DecodeColor.f (l0 : List Int) : Option (Int × Int × Int × Int × Int × Int) := (impl_own.f l0).bind fun t138 => ((sixel_DecodeColor.f t138).bind fun bt141 => (some (bt141.1, bt141.2.1, bt141.2.2.1, bt141.2.2.2.1, bt141.2.2.2.2.1, bt141.2.2.2.2.2)))
set_option maxHeartbeats 8000000 in
set_option maxRecDepth 100000 in
theorem impl_DecodeColor.calls (A0 : Option Addr) (c0 : Nat) (l0 : List Int) (r1 : Int) (r2 : Int) (r3 : Int) (r4 : Int) (r5 : Int) (r6 : Int) (w : World) (hr0 : Kd.C (Kd.int .u8) w A0 l0.length l0) (hc0 : l0.length ≤ c0) (h : impl_DecodeColor.f l0 = some (r1, r2, r3, r4, r5, r6)) :
    Calls Try.prog 13 #[.slice A0 l0.length c0] w fun e w' => e = .returned (.tuple #[.agg #[.int .i64 r1, .int .i64 r2, .int .i64 r3, .int .i64 r4, .int .i64 r5], .int .i64 r6]) ∧ Below w.heap.size w w' := by
  have hu39 := Try.underlying39
  have hu57 := Try.underlying57
  have HR0 := Aside0.mk hr0
  have HC0 := Aside0.mk hc0
  clear hr0 hc0
  have HB := Aside0.mk (Below.refl w.heap.size w)
  have H : ((impl_own.f l0).bind fun t138 => ((sixel_DecodeColor.f t138).bind fun bt141 => (some (bt141.1, bt141.2.1, bt141.2.2.1, bt141.2.2.2.1, bt141.2.2.2.2.1, bt141.2.2.2.2.2)))) = some (r1, r2, r3, r4, r5, r6) := h
  clear h
  replace H := Option.bind_eq_some_iff.mp H
  obtain ⟨t138, A20, H⟩ := H
  replace H : ((sixel_DecodeColor.f t138).bind fun bt141 => (some (bt141.1, bt141.2.1, bt141.2.2.1, bt141.2.2.2.1, bt141.2.2.2.2.1, bt141.2.2.2.2.2))) = some (r1, r2, r3, r4, r5, r6) := H
  have A2 := Aside0.mk A20
  clear A20
  replace H := Option.bind_eq_some_iff.mp H
  obtain ⟨⟨t141, t142, t143, t144, t145, t146⟩, A30, H⟩ := H
  replace H : (some (t141, t142, t143, t144, t145, t146)) = some (r1, r2, r3, r4, r5, r6) := H
  have A3 := Aside0.mk A30
  clear A30
  simp only [Option.some.injEq, Prod.mk.injEq] at H
  obtain ⟨rfl, rfl, rfl, rfl, rfl, rfl⟩ := H
  go_enter Try.func13, Try.ntmps13
  go_wp2_with (first | ((with_reducible refine gate_dst (N := 2) rfl ?_); refine box_event ?hg (N := 2) ?hd (cs := #[.int .i64 0, .int .i64 0, .int .i64 0, .int .i64 0, .int .i64 0]) (t := 39) ?hr ?_; (case hd => rfl); (case hg => rfl); (case hr => first | (go_simp; done) | (go_simp; rfl)); intro gb137 hg w4 hbox hb; have n0_ := Aside0.mk (below_step (by repeat (first | (with_reducible first | exact HB.out | apply below_alloc | apply Go.Proofs.Ytjicpadeplminaa.Ext.below_bytes | apply pw_below_drewN | apply below_drew1) | exact HB.out)) hb); have n1_ := Aside0.mk (hbox); have n2_ := Aside0.mk ((by rw [hg]; exact (below_size (by repeat (first | (with_reducible first | exact HB.out | apply below_alloc | apply Go.Proofs.Ytjicpadeplminaa.Ext.below_bytes | apply pw_below_drewN | apply below_drew1) | exact HB.out))) : w.heap.size ≤ gb137)); have n3_ := Aside0.mk ((by rw [hg]; exact (below_size (by repeat (first | (with_reducible first | exact HB.out | apply below_alloc | apply Go.Proofs.Ytjicpadeplminaa.Ext.below_bytes | apply pw_below_drewN | apply below_drew1) | exact HB.out))) : w.heap.size ≤ gb137)); clear HB; have HB := n0_; have BK137 := n1_; have GW137 := n2_; have GE137 := n3_; clear n0_ n1_ n2_ n3_; clear hb hbox hg) | ((with_reducible refine gate_callee (f := 17) rfl ?_); refine goesL_ (some 8) rfl rfl Try.func17 (by kernel_rfl) rfl #[.slice A0 l0.length c0] rfl (by (try simp only [List.map_toArray, List.map_cons, List.map_nil]); first | done | rfl | (simp only [List.length_drop, List.length_take]; rfl) | (simp [Act.eval, *]; done)) ?_; (with_reducible refine (impl_own.calls _ _ l0 t138 _ ?side1 ?side2 A2.out).mono ?_); (case side1 => repeat (first | exact (Kd.C_below HR0.out HB.out) | (with_reducible refine Kd.C_alloc ?_ _) | (with_reducible refine Kd.C_drewN ?_ _) | (with_reducible refine Kd.C_drew ?_))); (case side2 => exact HC0.out); rintro e w5 ⟨v139, rfl, ho0, hb⟩; refine ⟨_, rfl, ?_⟩; have n0_ := Aside0.mk (Kd.R_lower ho0 (below_size (by repeat (first | (with_reducible first | exact HB.out | apply below_alloc | apply Go.Proofs.Ytjicpadeplminaa.Ext.below_bytes | apply pw_below_drewN | apply below_drew1 | refine below_set ?_ GE137.out) | exact HB.out)))); have n1_ := Aside0.mk (blk_below (g := gb137) (o := .cells #[.int .i64 0, .int .i64 0, .int .i64 0, .int .i64 0, .int .i64 0] 39 (0, 0)) (by (with_reducible repeat (first | refine blk_drewN ?_ _ | refine blk_drew ?_ | refine blk_alloc ?_ _)); exact BK137.out) hb); have n2_ := Aside0.mk (below_step (by repeat (first | (with_reducible first | exact HB.out | apply below_alloc | apply Go.Proofs.Ytjicpadeplminaa.Ext.below_bytes | apply pw_below_drewN | apply below_drew1 | refine below_set ?_ GE137.out) | exact HB.out)) hb); clear BK137; clear HB; have HO140 := n0_; have BK137 := n1_; have HB := n2_; clear n0_ n1_ n2_; (try clear hb); (try clear hb2); (try clear hk); (try clear hi); (try clear ho0); obtain ⟨Ao6, co6, eo6⟩ := Kd.R_slice HO140.out; subst eo6) | ((with_reducible refine gate_callee (f := 20) rfl ?_); refine goesL_ (some 9) rfl rfl Try.func20 (by kernel_rfl) rfl #[.slice Ao6 t138.length co6] rfl (by (try simp only [List.map_toArray, List.map_cons, List.map_nil]); first | done | rfl | (simp only [List.length_drop, List.length_take]; rfl) | (simp [Act.eval, *]; done)) ?_; (with_reducible refine (sixel_DecodeColor.calls _ _ t138 t141 t142 t143 t144 t145 t146 _ ?side1 ?side2 A3.out).mono ?_); (case side1 => repeat (first | exact (Kd.R_reads' HO140.out).2.2 | (with_reducible refine Kd.C_alloc ?_ _) | (with_reducible refine Kd.C_drewN ?_ _) | (with_reducible refine Kd.C_drew ?_))); (case side2 => exact (Kd.R_reads' HO140.out).2.1); rintro e w7 ⟨rfl, hb⟩; refine ⟨_, rfl, ?_⟩; have n0_ := Aside0.mk (Kd.R_below (by (with_reducible repeat (first | apply Kd.R_alloc | apply Go.Proofs.Ytjicpadeplminaa.Ext.R_bytes | apply Kd.R_drewN | apply Kd.R_drew)); exact HO140.out) hb); have n1_ := Aside0.mk (blk_below (g := gb137) (o := .cells #[.int .i64 0, .int .i64 0, .int .i64 0, .int .i64 0, .int .i64 0] 39 (0, 0)) (by (with_reducible repeat (first | refine blk_drewN ?_ _ | refine blk_drew ?_ | refine blk_alloc ?_ _)); exact BK137.out) hb); have n2_ := Aside0.mk (below_step (by repeat (first | (with_reducible first | exact HB.out | apply below_alloc | apply Go.Proofs.Ytjicpadeplminaa.Ext.below_bytes | apply pw_below_drewN | apply below_drew1 | refine below_set ?_ GE137.out) | exact HB.out)) hb); clear HO140; clear BK137; clear HB; have HO140 := n0_; have BK137 := n1_; have HB := n2_; clear n0_ n1_ n2_; (try clear hb); (try clear hb2); (try clear hk); (try clear hi)) | ((with_reducible refine gate_dst (N := 4) rfl ?_); refine box_event ?hg (N := 4) ?hd (cs := #[.int .i64 0, .int .i64 0, .int .i64 0, .int .i64 0, .int .i64 0]) (t := 57) ?hr ?_; (case hd => rfl); (case hg => rfl); (case hr => first | (go_simp; done) | (go_simp; rfl)); intro gb147 hg w8 hbox hb; have n0_ := Aside0.mk (Kd.R_below (by (with_reducible repeat (first | apply Kd.R_alloc | apply Go.Proofs.Ytjicpadeplminaa.Ext.R_bytes | apply Kd.R_drewN | apply Kd.R_drew)); exact HO140.out) hb); have n1_ := Aside0.mk (blk_below (g := gb137) (o := .cells #[.int .i64 0, .int .i64 0, .int .i64 0, .int .i64 0, .int .i64 0] 39 (0, 0)) (by (with_reducible repeat (first | refine blk_drewN ?_ _ | refine blk_drew ?_ | refine blk_alloc ?_ _)); exact BK137.out) hb); have n2_ := Aside0.mk (below_step (by repeat (first | (with_reducible first | exact HB.out | apply below_alloc | apply Go.Proofs.Ytjicpadeplminaa.Ext.below_bytes | apply pw_below_drewN | apply below_drew1 | refine below_set ?_ GE137.out) | exact HB.out)) hb); have n3_ := Aside0.mk (hbox); have n4_ := Aside0.mk ((by rw [hg]; exact (below_size (by repeat (first | (with_reducible first | exact HB.out | apply below_alloc | apply Go.Proofs.Ytjicpadeplminaa.Ext.below_bytes | apply pw_below_drewN | apply below_drew1 | refine below_set ?_ GE137.out) | exact HB.out))) : w.heap.size ≤ gb147)); have n5_ := Aside0.mk ((by rw [hg]; exact (below_size (by repeat (first | (with_reducible first | exact HB.out | apply below_alloc | apply Go.Proofs.Ytjicpadeplminaa.Ext.below_bytes | apply pw_below_drewN | apply below_drew1 | refine below_set ?_ GE137.out) | exact HB.out))) : w.heap.size ≤ gb147)); have n6_ := Aside0.mk ((by rw [hg]; exact Nat.ne_of_lt (blk_lt (g := gb137) (o := .cells #[.int .i64 0, .int .i64 0, .int .i64 0, .int .i64 0, .int .i64 0] 39 (0, 0)) (by (with_reducible repeat (first | refine blk_drewN ?_ _ | refine blk_drew ?_ | refine blk_alloc ?_ _)); exact BK137.out)) : gb137 ≠ gb147)); have n7_ := Aside0.mk ((by rw [hg]; exact Nat.ne_of_gt (blk_lt (g := gb137) (o := .cells #[.int .i64 0, .int .i64 0, .int .i64 0, .int .i64 0, .int .i64 0] 39 (0, 0)) (by (with_reducible repeat (first | refine blk_drewN ?_ _ | refine blk_drew ?_ | refine blk_alloc ?_ _)); exact BK137.out)) : gb147 ≠ gb137)); clear HO140; clear BK137; clear HB; have HO140 := n0_; have BK137 := n1_; have HB := n2_; have BK147 := n3_; have GW147 := n4_; have GE147 := n5_; have NB137_147 := n6_; have NB147_137 := n7_; clear n0_ n1_ n2_ n3_ n4_ n5_ n6_ n7_; clear hb hbox hg; have hnb9 := NB147_137.out; have hnc9 := NB137_147.out; have hcz10_0 : w8.cell? ⟨gb147, 0, none⟩ = some (.int .i64 0) := (blk_cell BK147.out 0).trans rfl; have hcz10_1 : w8.cell? ⟨gb147, 1, none⟩ = some (.int .i64 0) := (blk_cell BK147.out 1).trans rfl; have hcz10_2 : w8.cell? ⟨gb147, 2, none⟩ = some (.int .i64 0) := (blk_cell BK147.out 2).trans rfl; have hcz10_3 : w8.cell? ⟨gb147, 3, none⟩ = some (.int .i64 0) := (blk_cell BK147.out 3).trans rfl; have hcz10_4 : w8.cell? ⟨gb147, 4, none⟩ = some (.int .i64 0) := (blk_cell BK147.out 4).trans rfl; have hfz10_0 := blk_frozen BK147.out 0; have hfz10_1 := blk_frozen BK147.out 1; have hfz10_2 := blk_frozen BK147.out 2; have hfz10_3 := blk_frozen BK147.out 3; have hfz10_4 := blk_frozen BK147.out 4; have hcz11_0 : w8.cell? ⟨gb137, 0, none⟩ = some (.int .i64 0) := (blk_cell BK137.out 0).trans rfl; have hcz11_1 : w8.cell? ⟨gb137, 1, none⟩ = some (.int .i64 0) := (blk_cell BK137.out 1).trans rfl; have hcz11_2 : w8.cell? ⟨gb137, 2, none⟩ = some (.int .i64 0) := (blk_cell BK137.out 2).trans rfl; have hcz11_3 : w8.cell? ⟨gb137, 3, none⟩ = some (.int .i64 0) := (blk_cell BK137.out 3).trans rfl; have hcz11_4 : w8.cell? ⟨gb137, 4, none⟩ = some (.int .i64 0) := (blk_cell BK137.out 4).trans rfl; have hfz11_0 := blk_frozen BK137.out 0; have hfz11_1 := blk_frozen BK137.out 1; have hfz11_2 := blk_frozen BK137.out 2; have hfz11_3 := blk_frozen BK137.out 3; have hfz11_4 := blk_frozen BK137.out 4))
  refine bodyPost_ret (results_ct rfl _ _ gb137 39 #[.int .i64 t141, .int .i64 t142, .int .i64 t143, .int .i64 t144, .int .i64 t145] (0, 0) _ rfl (by (with_reducible repeat (first | refine blk_drewN ?_ _ | refine blk_drew ?_ | refine blk_alloc ?_ _)); refine blk_put (cs := #[.int .i64 t141, .int .i64 t142, .int .i64 t143, .int .i64 t144, .int .i64 0]) ?_ 4 _ rfl; (with_reducible repeat (first | refine blk_drewN ?_ _ | refine blk_drew ?_ | refine blk_alloc ?_ _)); refine blk_put (cs := #[.int .i64 t141, .int .i64 t142, .int .i64 t143, .int .i64 0, .int .i64 0]) ?_ 3 _ rfl; (with_reducible repeat (first | refine blk_drewN ?_ _ | refine blk_drew ?_ | refine blk_alloc ?_ _)); refine blk_put (cs := #[.int .i64 t141, .int .i64 t142, .int .i64 0, .int .i64 0, .int .i64 0]) ?_ 2 _ rfl; (with_reducible repeat (first | refine blk_drewN ?_ _ | refine blk_drew ?_ | refine blk_alloc ?_ _)); refine blk_put (cs := #[.int .i64 t141, .int .i64 0, .int .i64 0, .int .i64 0, .int .i64 0]) ?_ 1 _ rfl; (with_reducible repeat (first | refine blk_drewN ?_ _ | refine blk_drew ?_ | refine blk_alloc ?_ _)); refine blk_put (cs := #[.int .i64 0, .int .i64 0, .int .i64 0, .int .i64 0, .int .i64 0]) ?_ 0 _ rfl; (with_reducible repeat (first | refine blk_drewN ?_ _ | refine blk_drew ?_ | refine blk_alloc ?_ _)); refine blk_far ?_ NB137_147.out _; (with_reducible repeat (first | refine blk_drewN ?_ _ | refine blk_drew ?_ | refine blk_alloc ?_ _)); refine blk_far ?_ NB137_147.out _; (with_reducible repeat (first | refine blk_drewN ?_ _ | refine blk_drew ?_ | refine blk_alloc ?_ _)); refine blk_far ?_ NB137_147.out _; (with_reducible repeat (first | refine blk_drewN ?_ _ | refine blk_drew ?_ | refine blk_alloc ?_ _)); refine blk_far ?_ NB137_147.out _; (with_reducible repeat (first | refine blk_drewN ?_ _ | refine blk_drew ?_ | refine blk_alloc ?_ _)); refine blk_far ?_ NB137_147.out _; (with_reducible repeat (first | refine blk_drewN ?_ _ | refine blk_drew ?_ | refine blk_alloc ?_ _)); exact BK137.out) Try.underlying39 rfl (by kernel_rfl)) rfl ?_
  exact ⟨by first | rfl | (simp [errW_none, errW_some] <;> rfl) | (simp [*, errW_none, errW_some] <;> rfl), by repeat (first | (with_reducible first | exact HB.out | apply below_alloc | apply Go.Proofs.Ytjicpadeplminaa.Ext.below_bytes | apply pw_below_drewN | apply below_drew1 | refine below_set ?_ GE137.out | refine below_set ?_ GE147.out) | exact HB.out)⟩

/-! ### laws_FnSixelColorRead: function 6 -/
def laws_FnSixelColorRead.j0 : Nat → List Int → Bool → Option (Bool)
  | 0, _, _ => none
  | k + 1, x0, x19 => if x19 = true then (some true) else (if ([] : List Int).length + x0.length < 140737488355328 then ((impl_DecodeColor.f (([] : List Int) ++ x0)).bind fun bt152 => ((spec_SixelColorIn.f x0).bind fun bt159 => ((impl_DecodeColor.f ([35, 51] : List Int)).bind fun bt166 => (if (bt152.1 == bt159.1 && (bt152.2.1 == bt159.2.1 && (bt152.2.2.1 == bt159.2.2.1 && (bt152.2.2.2.1 == bt159.2.2.2.1 && (bt152.2.2.2.2.1 == bt159.2.2.2.2.1))))) = true then (if bt152.2.2.2.2.2 = bt159.2.2.2.2.2 then (if bt166.2.2.2.2.2 = 2 then (some (bt166.1 == 3)) else (some false)) else (some false)) else (some false))))) else (none))
def laws_FnSixelColorRead.f (k : Nat) (l0 : List Int) : Option (Bool) := if (l0.length : Int) > 2147483647 then (some true) else (if (l0.length : Int) > 200 then (laws_FnSixelColorRead.j0 k l0 true) else ((spec_FewDigits.f k l0).bind fun t148 => (laws_FnSixelColorRead.j0 k l0 (!t148))))
theorem laws_FnSixelColorRead.mono_l : ∀ k, (∀ y0 y1, LeO (laws_FnSixelColorRead.j0 k y0 y1) (laws_FnSixelColorRead.j0 (k + 1) y0 y1))
  | 0 => fun _ _ r h => by simp [laws_FnSixelColorRead.j0] at h
  | k + 1 => by
    have ih0 := laws_FnSixelColorRead.mono_l k
    · intro y0 y1
      unfold laws_FnSixelColorRead.j0
      repeat' first
      | (with_reducible exact ih0 _ _)
      | (with_reducible exact spec_FewDigits.mono _ _)
      | (with_reducible exact LeO.refl _)
      | (with_reducible exact LeO.none _)
      | (with_reducible refine LeO.ite ?_ ?_)
      | (with_reducible refine LeO.bind ?_ (fun _ => ?_))
      | exact ih0 _ _
      | exact spec_FewDigits.mono _ _
      | exact LeO.none _
      | refine LeO.ite ?_ ?_
      | refine LeO.bind ?_ (fun _ => ?_)
theorem laws_FnSixelColorRead.mono : ∀ a0 k, LeO (laws_FnSixelColorRead.f k a0) (laws_FnSixelColorRead.f (k + 1) a0) := by
  intro a0 k
  have ih0 := laws_FnSixelColorRead.mono_l k
  unfold laws_FnSixelColorRead.f
  repeat' first
      | (with_reducible exact ih0 _ _)
      | (with_reducible exact spec_FewDigits.mono _ _)
      | (with_reducible exact LeO.refl _)
      | (with_reducible exact LeO.none _)
      | (with_reducible refine LeO.ite ?_ ?_)
      | (with_reducible refine LeO.bind ?_ (fun _ => ?_))
      | exact ih0 _ _
      | exact spec_FewDigits.mono _ _
      | exact LeO.none _
      | refine LeO.ite ?_ ?_
      | refine LeO.bind ?_ (fun _ => ?_)
set_option maxHeartbeats 8000000 in
set_option maxRecDepth 100000 in
theorem laws_FnSixelColorRead.calls (k : Nat) (A0 : Option Addr) (c0 : Nat) (l0 : List Int) (r : Bool) (w : World) (hr0 : Kd.C (Kd.int .u8) w A0 l0.length l0) (hc0 : l0.length ≤ c0) (h : laws_FnSixelColorRead.f k l0 = some r) :
    Calls Try.prog 6 #[.slice A0 l0.length c0] w fun e w' => e = .returned (.bool r) ∧ Below w.heap.size w w' := by
  have hu39 := Try.underlying39
  have hu42 := Try.underlying42
  have ia_42_0 : ∀ (b_ : Nat) (w_ : World), (Instr.indexAt 42 (.pointer (some ⟨b_, 0, none⟩)) (.int .i64 0)).run Try.prog w_ = .ok (.pointer (some ⟨b_, 0, none⟩)) w_ := fun b_ w_ => by kernel_rfl
  have ia_42_1 : ∀ (b_ : Nat) (w_ : World), (Instr.indexAt 42 (.pointer (some ⟨b_, 0, none⟩)) (.int .i64 1)).run Try.prog w_ = .ok (.pointer (some ⟨b_, 1, none⟩)) w_ := fun b_ w_ => by kernel_rfl
  have ia_42_2 : ∀ (b_ : Nat) (w_ : World), (Instr.indexAt 42 (.pointer (some ⟨b_, 0, none⟩)) (.int .i64 2)).run Try.prog w_ = .ok (.pointer (some ⟨b_, 2, none⟩)) w_ := fun b_ w_ => by kernel_rfl
  have ia_42_3 : ∀ (b_ : Nat) (w_ : World), (Instr.indexAt 42 (.pointer (some ⟨b_, 0, none⟩)) (.int .i64 3)).run Try.prog w_ = .ok (.pointer (some ⟨b_, 3, none⟩)) w_ := fun b_ w_ => by kernel_rfl
  have ia_42_4 : ∀ (b_ : Nat) (w_ : World), (Instr.indexAt 42 (.pointer (some ⟨b_, 0, none⟩)) (.int .i64 4)).run Try.prog w_ = .ok (.pointer (some ⟨b_, 4, none⟩)) w_ := fun b_ w_ => by kernel_rfl
  have kc_25 := fun (w : World) (C : Array Value) (n c : Nat) => Lib.run_convert_bytes_const (P := Try.prog) w 25 5 C n c Try.underlying25 Try.underlying5
  have kcn_25 := Go.Proofs.Ytjicpadeplminaa.Ext.conv_lit_drewN 25 5 Try.underlying25 Try.underlying5
  have kcd_25 := Go.Proofs.Ytjicpadeplminaa.Ext.conv_lit_drew 25 5 Try.underlying25 Try.underlying5
  have kcq_25 := Go.Proofs.Ytjicpadeplminaa.Ext.conv_lit_at 25 5 Try.underlying25 Try.underlying5
  have HR0 := Aside0.mk hr0
  have HC0 := Aside0.mk hc0
  clear hr0 hc0
  have HB := Aside0.mk (Below.refl w.heap.size w)
  have H : (if (l0.length : Int) > 2147483647 then (some true) else (if (l0.length : Int) > 200 then (laws_FnSixelColorRead.j0 k l0 true) else ((spec_FewDigits.f k l0).bind fun t148 => (laws_FnSixelColorRead.j0 k l0 (!t148))))) = some r := h
  clear h
  by_cases c2 : (l0.length : Int) > 2147483647
  · rw [if_pos c2] at H
    have c2b0 : decide (2147483647 < (l0.length : Int)) = true := decide_eq_true c2
    have c2b1 : decide (2147483647 < l0.length) = true := decide_eq_true (by omega)
    clear c2
    obtain rfl := Option.some.inj H
    go_enter Try.func6, Try.ntmps6
    go_wp2
    go_ret
    exact ⟨by first | rfl | (simp [errW_none, errW_some] <;> rfl) | (simp [*, errW_none, errW_some] <;> rfl), by repeat (first | (with_reducible first | exact HB.out | apply below_alloc | apply Go.Proofs.Ytjicpadeplminaa.Ext.below_bytes | apply pw_below_drewN | apply below_drew1) | exact HB.out)⟩
  · rw [if_neg c2] at H
    have c2b0 : decide (2147483647 < (l0.length : Int)) = false := decide_eq_false c2
    have c2b1 : decide (2147483647 < l0.length) = false := decide_eq_false (by omega)
    clear c2
    have HC3 := Aside0.mk H
    clear H
    go_enter Try.func6, Try.ntmps6
    go_upto_region 3 with (fail)
    go_cut [19] (fun v19 wc => ∃ (kq : Nat) (x19_2 : Bool), v19 = .bool x19_2 ∧ Aside0 (laws_FnSixelColorRead.j0 kq l0 x19_2 = some r) ∧ Aside0 (kq ≤ k) ∧ Aside0 (Below w.heap.size w wc))
    case first =>
      have H := HC3.out
      clear HC3
      by_cases c4 : (l0.length : Int) > 200
      · rw [if_pos c4] at H
        have c4b0 : decide (200 < (l0.length : Int)) = true := decide_eq_true c4
        have c4b1 : decide (200 < l0.length) = true := decide_eq_true (by omega)
        clear c4
        (first | rw [c4b0] | (simp only [i64_w, i32_w]; rw [c4b0]) | skip)
        have H' := Aside0.mk H
        clear H
        go_wp2
        go_meet
        case rel => exact ⟨_, (true), (by first | rfl | (simp; done) | (simp [*]; done)), H', ⟨by first | omega | exact Nat.le_refl _⟩, ⟨by repeat (first | (with_reducible first | exact HB.out | apply below_alloc | apply Go.Proofs.Ytjicpadeplminaa.Ext.below_bytes | apply pw_below_drewN | apply below_drew1) | exact HB.out)⟩⟩
      · rw [if_neg c4] at H
        have c4b0 : decide (200 < (l0.length : Int)) = false := decide_eq_false c4
        have c4b1 : decide (200 < l0.length) = false := decide_eq_false (by omega)
        clear c4
        (first | rw [c4b0] | (simp only [i64_w, i32_w]; rw [c4b0]) | skip)
        replace H := Option.bind_eq_some_iff.mp H
        obtain ⟨t148, A50, H⟩ := H
        replace H : (laws_FnSixelColorRead.j0 k l0 (!t148)) = some r := H
        have A5 := Aside0.mk A50
        clear A50
        have H' := Aside0.mk H
        clear H
        go_wp2_with (first | (go_at_call 8; (with_reducible refine (spec_FewDigits.calls k _ _ l0 t148 _ ?side1 ?side2 A5.out).mono ?_); (case side1 => repeat (first | exact (Kd.C_below HR0.out HB.out) | (with_reducible refine Kd.C_alloc ?_ _) | (with_reducible refine Kd.C_drewN ?_ _) | (with_reducible refine Kd.C_drew ?_))); (case side2 => exact HC0.out); rintro e w' ⟨rfl, ⟨nd, rfl⟩⟩))
        go_meet
        case rel => exact ⟨_, (!t148), (by first | rfl | (simp; done) | (simp [*]; done)), H', ⟨by first | omega | exact Nat.le_refl _⟩, ⟨by repeat (first | (with_reducible first | exact HB.out | apply below_alloc | apply Go.Proofs.Ytjicpadeplminaa.Ext.below_bytes | apply pw_below_drewN | apply below_drew1) | exact HB.out)⟩⟩
    case rest =>
      clear HC3
      try clear c2
      try clear c2b0
      try clear c2b1
      try clear p2
      try clear c4
      try clear c4b0
      try clear c4b1
      obtain ⟨kq, x19_2, rfl, HA, HJ2, HB⟩ := hcut
      cases kq with
      | zero => exact absurd HA.out (by simp [laws_FnSixelColorRead.j0])
      | succ kj2 =>
        have H := HA.out
        clear HA
        simp only [laws_FnSixelColorRead.j0] at H
        by_cases c6 : x19_2 = true
        · subst c6
          have H1 : (some true) = some r := by rw [if_pos rfl] at H; exact H
          clear H
          have H := H1
          clear H1
          obtain rfl := Option.some.inj H
          go_wp2
          go_ret
          exact ⟨by first | rfl | (simp [errW_none, errW_some] <;> rfl) | (simp [*, errW_none, errW_some] <;> rfl), by repeat (first | (with_reducible first | exact HB.out | apply below_alloc | apply Go.Proofs.Ytjicpadeplminaa.Ext.below_bytes | apply pw_below_drewN | apply below_drew1) | exact HB.out)⟩
        · replace c6 := Bool.eq_false_iff.mpr c6
          subst c6
          have H1 : (if ([] : List Int).length + l0.length < 140737488355328 then ((impl_DecodeColor.f (([] : List Int) ++ l0)).bind fun bt152 => ((spec_SixelColorIn.f l0).bind fun bt159 => ((impl_DecodeColor.f ([35, 51] : List Int)).bind fun bt166 => (if (bt152.1 == bt159.1 && (bt152.2.1 == bt159.2.1 && (bt152.2.2.1 == bt159.2.2.1 && (bt152.2.2.2.1 == bt159.2.2.2.1 && (bt152.2.2.2.2.1 == bt159.2.2.2.2.1))))) = true then (if bt152.2.2.2.2.2 = bt159.2.2.2.2.2 then (if bt166.2.2.2.2.2 = 2 then (some (bt166.1 == 3)) else (some false)) else (some false)) else (some false))))) else (none)) = some r := by rw [if_neg (show ¬ (false = true) by decide)] at H; exact H
          clear H
          have H := H1
          clear H1
          by_cases c7 : ([] : List Int).length + l0.length < 140737488355328
          · rw [if_pos c7] at H
            have LMc7 := Aside0.mk c7
            clear c7
            obtain ⟨y149, hy149⟩ : ∃ y_ : List Int, y_ = (([] : List Int) ++ l0) := ⟨_, rfl⟩
            replace H : ((impl_DecodeColor.f y149).bind fun bt152 => ((spec_SixelColorIn.f l0).bind fun bt159 => ((impl_DecodeColor.f ([35, 51] : List Int)).bind fun bt166 => (if (bt152.1 == bt159.1 && (bt152.2.1 == bt159.2.1 && (bt152.2.2.1 == bt159.2.2.1 && (bt152.2.2.2.1 == bt159.2.2.2.1 && (bt152.2.2.2.2.1 == bt159.2.2.2.2.1))))) = true then (if bt152.2.2.2.2.2 = bt159.2.2.2.2.2 then (if bt166.2.2.2.2.2 = 2 then (some (bt166.1 == 3)) else (some false)) else (some false)) else (some false))))) = some r := by first | (rw [hy149]; with_reducible exact H) | (have H2_ := (Option.bind_some _ _).symm.trans H; rw [hy149]; with_reducible exact H2_) | (have H2_ := (Option.bind_some _ _).symm.trans H; with_reducible exact H2_) | with_reducible exact H | (rw [hy149]; exact H) | exact H
            have Ny149 := Aside0.mk hy149
            clear hy149
            replace H := Option.bind_eq_some_iff.mp H
            obtain ⟨⟨t152, t153, t154, t155, t156, t157⟩, A80, H⟩ := H
            replace H : ((spec_SixelColorIn.f l0).bind fun bt159 => ((impl_DecodeColor.f ([35, 51] : List Int)).bind fun bt166 => (if (t152 == bt159.1 && (t153 == bt159.2.1 && (t154 == bt159.2.2.1 && (t155 == bt159.2.2.2.1 && (t156 == bt159.2.2.2.2.1))))) = true then (if t157 = bt159.2.2.2.2.2 then (if bt166.2.2.2.2.2 = 2 then (some (bt166.1 == 3)) else (some false)) else (some false)) else (some false)))) = some r := H
            have A8 := Aside0.mk A80
            clear A80
            replace H := Option.bind_eq_some_iff.mp H
            obtain ⟨⟨t159, t160, t161, t162, t163, t164⟩, A90, H⟩ := H
            replace H : ((impl_DecodeColor.f ([35, 51] : List Int)).bind fun bt166 => (if (t152 == t159 && (t153 == t160 && (t154 == t161 && (t155 == t162 && (t156 == t163))))) = true then (if t157 = t164 then (if bt166.2.2.2.2.2 = 2 then (some (bt166.1 == 3)) else (some false)) else (some false)) else (some false))) = some r := H
            have A9 := Aside0.mk A90
            clear A90
            replace H := Option.bind_eq_some_iff.mp H
            obtain ⟨⟨t166, t167, t168, t169, t170, t171⟩, A100, H⟩ := H
            replace H : (if (t152 == t159 && (t153 == t160 && (t154 == t161 && (t155 == t162 && (t156 == t163))))) = true then (if t157 = t164 then (if t171 = 2 then (some (t166 == 3)) else (some false)) else (some false)) else (some false)) = some r := H
            have A10 := Aside0.mk A100
            clear A100
            by_cases c11 : (t152 == t159 && (t153 == t160 && (t154 == t161 && (t155 == t162 && (t156 == t163))))) = true
            · rw [if_pos c11] at H
              have c11b0 : (t152 == t159 && (t153 == t160 && (t154 == t161 && (t155 == t162 && (t156 == t163))))) = true := c11
              (try (have c11b1 : decide (t152 = t159 && (t153 == t160 && (t154 == t161 && (t155 == t162 && (t156 == t163))))) = true := by simpa using c11))
              (try (have c11b2 : (t152 == t159 && (t153 == t160 && (t154 == t161 && (t155 == t162 && (t156 == t163))))) = true := by simpa using c11))
              clear c11
              by_cases c12 : t157 = t164
              · rw [if_pos c12] at H
                have c12b0 : (t157 == t164) = true := beq_iff_eq.mpr c12
                have c12b1 : (t157 != t164) = false := bne_eq_false_iff_eq.mpr c12
                clear c12
                by_cases c13 : t171 = 2
                · rw [if_pos c13] at H
                  have c13b0 : (t171 == 2) = true := beq_iff_eq.mpr c13
                  have c13b1 : (t171 != 2) = false := bne_eq_false_iff_eq.mpr c13
                  clear c13
                  obtain rfl := Option.some.inj H
                  go_upto_region 6 with (first | ((with_reducible refine gate_builtin (b := .append) (xs := #[.const (.slice none 0 0), .tmp 21]) rfl ?_); at_builtin; refine Kd.R_append_rows (Kd.int .u8) (w0 := w) w.heap.size rfl (.const (.slice none 0 0)) (.tmp 21) 25 5 (.int .u8 0) 1 rfl Try.underlying25 info5 rfl (by decide) (by omega) (.slice none 0 0) ([] : List Int) l0 _ _ _ (fun _ => True) (fun _ => False) rfl rfl ?aO ?aR (fun _ _ h => h) (fun _ h => h.elim) ?aF ?aB ?aS ?aL ?_; (case aR => repeat (first | exact (Kd.C_below HR0.out HB.out) | (with_reducible refine Kd.C_alloc ?_ _) | (with_reducible refine Kd.C_drewN ?_ _) | (with_reducible refine Kd.C_drew ?_))); (case aB => exact (by repeat (first | (with_reducible first | exact HB.out | apply below_alloc | apply Go.Proofs.Ytjicpadeplminaa.Ext.below_bytes | apply pw_below_drewN | apply below_drew1) | exact HB.out))); (case aF => exact (fun _ _ => trivial)); (case aO => exact ((Kd.R_nil _ _ _ _ (fun _ => True)))); (case aS => exact (below_size (by repeat (first | (with_reducible first | exact HB.out | apply below_alloc | apply Go.Proofs.Ytjicpadeplminaa.Ext.below_bytes | apply pw_below_drewN | apply below_drew1) | exact HB.out)))); (case aL => have := LMc7.out; omega); intro v150 w14 ho hb hg hat; rw [← Ny149.out] at ho; have n0_ := Aside0.mk (hb); have n1_ := Aside0.mk (ho); clear HB; have HB := n0_; have HO151 := n1_; clear n0_ n1_; clear ho hb hg hat; obtain ⟨Ao15, co15, eo15⟩ := Kd.R_slice HO151.out; subst eo15) | ((with_reducible refine gate_callee (f := 13) rfl ?_); refine goesL_ (some 23) rfl rfl Try.func13 (by kernel_rfl) rfl #[.slice Ao15 y149.length co15] rfl (by (try simp only [List.map_toArray, List.map_cons, List.map_nil]); first | done | rfl | (simp only [List.length_drop, List.length_take]; rfl) | (simp [Act.eval, *]; done)) ?_; (with_reducible refine (impl_DecodeColor.calls _ _ y149 t152 t153 t154 t155 t156 t157 _ ?side1 ?side2 A8.out).mono ?_); (case side1 => repeat (first | exact (Kd.R_reads' HO151.out).2.2 | (with_reducible refine Kd.C_alloc ?_ _) | (with_reducible refine Kd.C_drewN ?_ _) | (with_reducible refine Kd.C_drew ?_))); (case side2 => exact (Kd.R_reads' HO151.out).2.1); rintro e w16 ⟨rfl, hb⟩; refine ⟨_, rfl, ?_⟩; have n0_ := Aside0.mk (Kd.R_below (by (with_reducible repeat (first | apply Kd.R_alloc | apply Go.Proofs.Ytjicpadeplminaa.Ext.R_bytes | apply Kd.R_drewN | apply Kd.R_drew)); exact HO151.out) hb); have n1_ := Aside0.mk (below_step (by repeat (first | (with_reducible first | exact HB.out | apply below_alloc | apply Go.Proofs.Ytjicpadeplminaa.Ext.below_bytes | apply pw_below_drewN | apply below_drew1) | exact HB.out)) hb); clear HO151; clear HB; have HO151 := n0_; have HB := n1_; clear n0_ n1_; (try clear hb); (try clear hb2); (try clear hk); (try clear hi)))
                  go_upto_region 7 with (go_at_call 14; (with_reducible refine (spec_SixelColorIn.calls _ _ l0 t159 t160 t161 t162 t163 t164 _ ?s1 ?s2 A9.out).mono ?_); (case s1 => exact Kd.C_below HR0.out (HB.out.alloc HB.out.size _)); (case s2 => exact HC0.out); rintro e wB ⟨rfl, hb⟩; have kA := (hb.block w16.heap.size (by simp)).trans (heap_alloc_new w16 (.cells #[.int .i64 t152, .int .i64 t153, .int .i64 t154, .int .i64 t155, .int .i64 t156] 39)); have HSA := Aside0.mk (Nat.lt_of_lt_of_le (by simp : w16.heap.size < (w16.alloc (.cells #[.int .i64 t152, .int .i64 t153, .int .i64 t154, .int .i64 t155, .int .i64 t156] 39)).heap.size) hb.size); have HKA := Aside0.mk kA; have HBB := Aside0.mk ((HB.out.alloc HB.out.size (.cells #[.int .i64 t152, .int .i64 t153, .int .i64 t154, .int .i64 t155, .int .i64 t156] 39)).trans (hb.mono (Nat.le_trans HB.out.size (by simp)))); clear kA hb)
                  go_upto_region 8 with (go_at_call 13; (refine (impl_DecodeColor.calls _ _ ([35, 51] : List Int) t166 t167 t168 t169 t170 t171 _ ?side1 ?side2 A10.out).mono ?_); (case side1 => exact Go.Proofs.Ytjicpadeplminaa.Ext.C_lit_at _ ([35, 51] : List Int) _ _ _ _ (by simp) rfl (by decide)); (case side2 => exact (by decide)); rintro e wC ⟨rfl, hb⟩)
                  have hsA := HSA.out
                  have hsz := hb.size
                  have kB := (hb.block wB.heap.size (by simp; omega)).trans ((Below.heap_alloc _ _ wB.heap.size (by simp)).trans (heap_alloc_new wB (.cells #[.int .i64 t159, .int .i64 t160, .int .i64 t161, .int .i64 t162, .int .i64 t163] 42)))
                  have kA := (hb.block w16.heap.size (by simp; omega)).trans ((Below.heap_alloc _ _ w16.heap.size (by simp; omega)).trans ((Below.heap_alloc wB (.cells #[.int .i64 t159, .int .i64 t160, .int .i64 t161, .int .i64 t162, .int .i64 t163] 42) w16.heap.size hsA).trans HKA.out))
                  have gB : wB.heap.size < wC.heap.size := by simp at hsz; omega
                  have gA : w16.heap.size < wC.heap.size := Nat.lt_trans hsA gB
                  have HBC := Aside0.mk (((HBB.out.alloc HBB.out.size (.cells #[.int .i64 t159, .int .i64 t160, .int .i64 t161, .int .i64 t162, .int .i64 t163] 42)).alloc (Nat.le_trans HBB.out.size (by simp)) _).trans (hb.mono (Nat.le_trans HBB.out.size (by simp; omega))))
                  have fA0 : wC.cell? ⟨w16.heap.size, 0, none⟩ = some (.int .i64 t152) := (by simp [World.cell?, kA])
                  have fA1 : wC.cell? ⟨w16.heap.size, 1, none⟩ = some (.int .i64 t153) := (by simp [World.cell?, kA])
                  have fA2 : wC.cell? ⟨w16.heap.size, 2, none⟩ = some (.int .i64 t154) := (by simp [World.cell?, kA])
                  have fA3 : wC.cell? ⟨w16.heap.size, 3, none⟩ = some (.int .i64 t155) := (by simp [World.cell?, kA])
                  have fA4 : wC.cell? ⟨w16.heap.size, 4, none⟩ = some (.int .i64 t156) := (by simp [World.cell?, kA])
                  have fB0 : wC.cell? ⟨wB.heap.size, 0, none⟩ = some (.int .i64 t159) := (by simp [World.cell?, kB])
                  have fB1 : wC.cell? ⟨wB.heap.size, 1, none⟩ = some (.int .i64 t160) := (by simp [World.cell?, kB])
                  have fB2 : wC.cell? ⟨wB.heap.size, 2, none⟩ = some (.int .i64 t161) := (by simp [World.cell?, kB])
                  have fB3 : wC.cell? ⟨wB.heap.size, 3, none⟩ = some (.int .i64 t162) := (by simp [World.cell?, kB])
                  have fB4 : wC.cell? ⟨wB.heap.size, 4, none⟩ = some (.int .i64 t163) := (by simp [World.cell?, kB])
                  clear kA kB hb hsz hsA
                  go_wp2
                  go_ret
                  exact ⟨by first | rfl | (simp; done) | (simp [*]; done), by first | exact HBC.out.alloc HBC.out.size _ | exact HBC.out⟩
                · rw [if_neg c13] at H
                  have c13b0 : (t171 == 2) = false := beq_eq_false_iff_ne.mpr c13
                  have c13b1 : (t171 != 2) = true := bne_iff_ne.mpr c13
                  obtain rfl := Option.some.inj H
                  go_upto_region 6 with (first | ((with_reducible refine gate_builtin (b := .append) (xs := #[.const (.slice none 0 0), .tmp 21]) rfl ?_); at_builtin; refine Kd.R_append_rows (Kd.int .u8) (w0 := w) w.heap.size rfl (.const (.slice none 0 0)) (.tmp 21) 25 5 (.int .u8 0) 1 rfl Try.underlying25 info5 rfl (by decide) (by omega) (.slice none 0 0) ([] : List Int) l0 _ _ _ (fun _ => True) (fun _ => False) rfl rfl ?aO ?aR (fun _ _ h => h) (fun _ h => h.elim) ?aF ?aB ?aS ?aL ?_; (case aR => repeat (first | exact (Kd.C_below HR0.out HB.out) | (with_reducible refine Kd.C_alloc ?_ _) | (with_reducible refine Kd.C_drewN ?_ _) | (with_reducible refine Kd.C_drew ?_))); (case aB => exact (by repeat (first | (with_reducible first | exact HB.out | apply below_alloc | apply Go.Proofs.Ytjicpadeplminaa.Ext.below_bytes | apply pw_below_drewN | apply below_drew1) | exact HB.out))); (case aF => exact (fun _ _ => trivial)); (case aO => exact ((Kd.R_nil _ _ _ _ (fun _ => True)))); (case aS => exact (below_size (by repeat (first | (with_reducible first | exact HB.out | apply below_alloc | apply Go.Proofs.Ytjicpadeplminaa.Ext.below_bytes | apply pw_below_drewN | apply below_drew1) | exact HB.out)))); (case aL => have := LMc7.out; omega); intro v150 w30 ho hb hg hat; rw [← Ny149.out] at ho; have n0_ := Aside0.mk (hb); have n1_ := Aside0.mk (ho); clear HB; have HB := n0_; have HO151 := n1_; clear n0_ n1_; clear ho hb hg hat; obtain ⟨Ao31, co31, eo31⟩ := Kd.R_slice HO151.out; subst eo31) | ((with_reducible refine gate_callee (f := 13) rfl ?_); refine goesL_ (some 23) rfl rfl Try.func13 (by kernel_rfl) rfl #[.slice Ao31 y149.length co31] rfl (by (try simp only [List.map_toArray, List.map_cons, List.map_nil]); first | done | rfl | (simp only [List.length_drop, List.length_take]; rfl) | (simp [Act.eval, *]; done)) ?_; (with_reducible refine (impl_DecodeColor.calls _ _ y149 t152 t153 t154 t155 t156 t157 _ ?side1 ?side2 A8.out).mono ?_); (case side1 => repeat (first | exact (Kd.R_reads' HO151.out).2.2 | (with_reducible refine Kd.C_alloc ?_ _) | (with_reducible refine Kd.C_drewN ?_ _) | (with_reducible refine Kd.C_drew ?_))); (case side2 => exact (Kd.R_reads' HO151.out).2.1); rintro e w32 ⟨rfl, hb⟩; refine ⟨_, rfl, ?_⟩; have n0_ := Aside0.mk (Kd.R_below (by (with_reducible repeat (first | apply Kd.R_alloc | apply Go.Proofs.Ytjicpadeplminaa.Ext.R_bytes | apply Kd.R_drewN | apply Kd.R_drew)); exact HO151.out) hb); have n1_ := Aside0.mk (below_step (by repeat (first | (with_reducible first | exact HB.out | apply below_alloc | apply Go.Proofs.Ytjicpadeplminaa.Ext.below_bytes | apply pw_below_drewN | apply below_drew1) | exact HB.out)) hb); clear HO151; clear HB; have HO151 := n0_; have HB := n1_; clear n0_ n1_; (try clear hb); (try clear hb2); (try clear hk); (try clear hi)))
                  go_upto_region 7 with (go_at_call 14; (with_reducible refine (spec_SixelColorIn.calls _ _ l0 t159 t160 t161 t162 t163 t164 _ ?s1 ?s2 A9.out).mono ?_); (case s1 => exact Kd.C_below HR0.out (HB.out.alloc HB.out.size _)); (case s2 => exact HC0.out); rintro e wB ⟨rfl, hb⟩; have kA := (hb.block w32.heap.size (by simp)).trans (heap_alloc_new w32 (.cells #[.int .i64 t152, .int .i64 t153, .int .i64 t154, .int .i64 t155, .int .i64 t156] 39)); have HSA := Aside0.mk (Nat.lt_of_lt_of_le (by simp : w32.heap.size < (w32.alloc (.cells #[.int .i64 t152, .int .i64 t153, .int .i64 t154, .int .i64 t155, .int .i64 t156] 39)).heap.size) hb.size); have HKA := Aside0.mk kA; have HBB := Aside0.mk ((HB.out.alloc HB.out.size (.cells #[.int .i64 t152, .int .i64 t153, .int .i64 t154, .int .i64 t155, .int .i64 t156] 39)).trans (hb.mono (Nat.le_trans HB.out.size (by simp)))); clear kA hb)
                  go_upto_region 8 with (go_at_call 13; (refine (impl_DecodeColor.calls _ _ ([35, 51] : List Int) t166 t167 t168 t169 t170 t171 _ ?side1 ?side2 A10.out).mono ?_); (case side1 => exact Go.Proofs.Ytjicpadeplminaa.Ext.C_lit_at _ ([35, 51] : List Int) _ _ _ _ (by simp) rfl (by decide)); (case side2 => exact (by decide)); rintro e wC ⟨rfl, hb⟩)
                  have hsA := HSA.out
                  have hsz := hb.size
                  have kB := (hb.block wB.heap.size (by simp; omega)).trans ((Below.heap_alloc _ _ wB.heap.size (by simp)).trans (heap_alloc_new wB (.cells #[.int .i64 t159, .int .i64 t160, .int .i64 t161, .int .i64 t162, .int .i64 t163] 42)))
                  have kA := (hb.block w32.heap.size (by simp; omega)).trans ((Below.heap_alloc _ _ w32.heap.size (by simp; omega)).trans ((Below.heap_alloc wB (.cells #[.int .i64 t159, .int .i64 t160, .int .i64 t161, .int .i64 t162, .int .i64 t163] 42) w32.heap.size hsA).trans HKA.out))
                  have gB : wB.heap.size < wC.heap.size := by simp at hsz; omega
                  have gA : w32.heap.size < wC.heap.size := Nat.lt_trans hsA gB
                  have HBC := Aside0.mk (((HBB.out.alloc HBB.out.size (.cells #[.int .i64 t159, .int .i64 t160, .int .i64 t161, .int .i64 t162, .int .i64 t163] 42)).alloc (Nat.le_trans HBB.out.size (by simp)) _).trans (hb.mono (Nat.le_trans HBB.out.size (by simp; omega))))
                  have fA0 : wC.cell? ⟨w32.heap.size, 0, none⟩ = some (.int .i64 t152) := (by simp [World.cell?, kA])
                  have fA1 : wC.cell? ⟨w32.heap.size, 1, none⟩ = some (.int .i64 t153) := (by simp [World.cell?, kA])
                  have fA2 : wC.cell? ⟨w32.heap.size, 2, none⟩ = some (.int .i64 t154) := (by simp [World.cell?, kA])
                  have fA3 : wC.cell? ⟨w32.heap.size, 3, none⟩ = some (.int .i64 t155) := (by simp [World.cell?, kA])
                  have fA4 : wC.cell? ⟨w32.heap.size, 4, none⟩ = some (.int .i64 t156) := (by simp [World.cell?, kA])
                  have fB0 : wC.cell? ⟨wB.heap.size, 0, none⟩ = some (.int .i64 t159) := (by simp [World.cell?, kB])
                  have fB1 : wC.cell? ⟨wB.heap.size, 1, none⟩ = some (.int .i64 t160) := (by simp [World.cell?, kB])
                  have fB2 : wC.cell? ⟨wB.heap.size, 2, none⟩ = some (.int .i64 t161) := (by simp [World.cell?, kB])
                  have fB3 : wC.cell? ⟨wB.heap.size, 3, none⟩ = some (.int .i64 t162) := (by simp [World.cell?, kB])
                  have fB4 : wC.cell? ⟨wB.heap.size, 4, none⟩ = some (.int .i64 t163) := (by simp [World.cell?, kB])
                  clear kA kB hb hsz hsA
                  go_wp2
                  go_ret
                  exact ⟨by first | rfl | (simp; done) | (simp [*]; done), by first | exact HBC.out.alloc HBC.out.size _ | exact HBC.out⟩
              · rw [if_neg c12] at H
                have c12b0 : (t157 == t164) = false := beq_eq_false_iff_ne.mpr c12
                have c12b1 : (t157 != t164) = true := bne_iff_ne.mpr c12
                obtain rfl := Option.some.inj H
                go_upto_region 6 with (first | ((with_reducible refine gate_builtin (b := .append) (xs := #[.const (.slice none 0 0), .tmp 21]) rfl ?_); at_builtin; refine Kd.R_append_rows (Kd.int .u8) (w0 := w) w.heap.size rfl (.const (.slice none 0 0)) (.tmp 21) 25 5 (.int .u8 0) 1 rfl Try.underlying25 info5 rfl (by decide) (by omega) (.slice none 0 0) ([] : List Int) l0 _ _ _ (fun _ => True) (fun _ => False) rfl rfl ?aO ?aR (fun _ _ h => h) (fun _ h => h.elim) ?aF ?aB ?aS ?aL ?_; (case aR => repeat (first | exact (Kd.C_below HR0.out HB.out) | (with_reducible refine Kd.C_alloc ?_ _) | (with_reducible refine Kd.C_drewN ?_ _) | (with_reducible refine Kd.C_drew ?_))); (case aB => exact (by repeat (first | (with_reducible first | exact HB.out | apply below_alloc | apply Go.Proofs.Ytjicpadeplminaa.Ext.below_bytes | apply pw_below_drewN | apply below_drew1) | exact HB.out))); (case aF => exact (fun _ _ => trivial)); (case aO => exact ((Kd.R_nil _ _ _ _ (fun _ => True)))); (case aS => exact (below_size (by repeat (first | (with_reducible first | exact HB.out | apply below_alloc | apply Go.Proofs.Ytjicpadeplminaa.Ext.below_bytes | apply pw_below_drewN | apply below_drew1) | exact HB.out)))); (case aL => have := LMc7.out; omega); intro v150 w46 ho hb hg hat; rw [← Ny149.out] at ho; have n0_ := Aside0.mk (hb); have n1_ := Aside0.mk (ho); clear HB; have HB := n0_; have HO151 := n1_; clear n0_ n1_; clear ho hb hg hat; obtain ⟨Ao47, co47, eo47⟩ := Kd.R_slice HO151.out; subst eo47) | ((with_reducible refine gate_callee (f := 13) rfl ?_); refine goesL_ (some 23) rfl rfl Try.func13 (by kernel_rfl) rfl #[.slice Ao47 y149.length co47] rfl (by (try simp only [List.map_toArray, List.map_cons, List.map_nil]); first | done | rfl | (simp only [List.length_drop, List.length_take]; rfl) | (simp [Act.eval, *]; done)) ?_; (with_reducible refine (impl_DecodeColor.calls _ _ y149 t152 t153 t154 t155 t156 t157 _ ?side1 ?side2 A8.out).mono ?_); (case side1 => repeat (first | exact (Kd.R_reads' HO151.out).2.2 | (with_reducible refine Kd.C_alloc ?_ _) | (with_reducible refine Kd.C_drewN ?_ _) | (with_reducible refine Kd.C_drew ?_))); (case side2 => exact (Kd.R_reads' HO151.out).2.1); rintro e w48 ⟨rfl, hb⟩; refine ⟨_, rfl, ?_⟩; have n0_ := Aside0.mk (Kd.R_below (by (with_reducible repeat (first | apply Kd.R_alloc | apply Go.Proofs.Ytjicpadeplminaa.Ext.R_bytes | apply Kd.R_drewN | apply Kd.R_drew)); exact HO151.out) hb); have n1_ := Aside0.mk (below_step (by repeat (first | (with_reducible first | exact HB.out | apply below_alloc | apply Go.Proofs.Ytjicpadeplminaa.Ext.below_bytes | apply pw_below_drewN | apply below_drew1) | exact HB.out)) hb); clear HO151; clear HB; have HO151 := n0_; have HB := n1_; clear n0_ n1_; (try clear hb); (try clear hb2); (try clear hk); (try clear hi)))
                go_upto_region 7 with (go_at_call 14; (with_reducible refine (spec_SixelColorIn.calls _ _ l0 t159 t160 t161 t162 t163 t164 _ ?s1 ?s2 A9.out).mono ?_); (case s1 => exact Kd.C_below HR0.out (HB.out.alloc HB.out.size _)); (case s2 => exact HC0.out); rintro e wB ⟨rfl, hb⟩; have kA := (hb.block w48.heap.size (by simp)).trans (heap_alloc_new w48 (.cells #[.int .i64 t152, .int .i64 t153, .int .i64 t154, .int .i64 t155, .int .i64 t156] 39)); have HSA := Aside0.mk (Nat.lt_of_lt_of_le (by simp : w48.heap.size < (w48.alloc (.cells #[.int .i64 t152, .int .i64 t153, .int .i64 t154, .int .i64 t155, .int .i64 t156] 39)).heap.size) hb.size); have HKA := Aside0.mk kA; have HBB := Aside0.mk ((HB.out.alloc HB.out.size (.cells #[.int .i64 t152, .int .i64 t153, .int .i64 t154, .int .i64 t155, .int .i64 t156] 39)).trans (hb.mono (Nat.le_trans HB.out.size (by simp)))); clear kA hb)
                go_upto_region 8 with (go_at_call 13; (refine (impl_DecodeColor.calls _ _ ([35, 51] : List Int) t166 t167 t168 t169 t170 t171 _ ?side1 ?side2 A10.out).mono ?_); (case side1 => exact Go.Proofs.Ytjicpadeplminaa.Ext.C_lit_at _ ([35, 51] : List Int) _ _ _ _ (by simp) rfl (by decide)); (case side2 => exact (by decide)); rintro e wC ⟨rfl, hb⟩)
                have hsA := HSA.out
                have hsz := hb.size
                have kB := (hb.block wB.heap.size (by simp; omega)).trans ((Below.heap_alloc _ _ wB.heap.size (by simp)).trans (heap_alloc_new wB (.cells #[.int .i64 t159, .int .i64 t160, .int .i64 t161, .int .i64 t162, .int .i64 t163] 42)))
                have kA := (hb.block w48.heap.size (by simp; omega)).trans ((Below.heap_alloc _ _ w48.heap.size (by simp; omega)).trans ((Below.heap_alloc wB (.cells #[.int .i64 t159, .int .i64 t160, .int .i64 t161, .int .i64 t162, .int .i64 t163] 42) w48.heap.size hsA).trans HKA.out))
                have gB : wB.heap.size < wC.heap.size := by simp at hsz; omega
                have gA : w48.heap.size < wC.heap.size := Nat.lt_trans hsA gB
                have HBC := Aside0.mk (((HBB.out.alloc HBB.out.size (.cells #[.int .i64 t159, .int .i64 t160, .int .i64 t161, .int .i64 t162, .int .i64 t163] 42)).alloc (Nat.le_trans HBB.out.size (by simp)) _).trans (hb.mono (Nat.le_trans HBB.out.size (by simp; omega))))
                have fA0 : wC.cell? ⟨w48.heap.size, 0, none⟩ = some (.int .i64 t152) := (by simp [World.cell?, kA])
                have fA1 : wC.cell? ⟨w48.heap.size, 1, none⟩ = some (.int .i64 t153) := (by simp [World.cell?, kA])
                have fA2 : wC.cell? ⟨w48.heap.size, 2, none⟩ = some (.int .i64 t154) := (by simp [World.cell?, kA])
                have fA3 : wC.cell? ⟨w48.heap.size, 3, none⟩ = some (.int .i64 t155) := (by simp [World.cell?, kA])
                have fA4 : wC.cell? ⟨w48.heap.size, 4, none⟩ = some (.int .i64 t156) := (by simp [World.cell?, kA])
                have fB0 : wC.cell? ⟨wB.heap.size, 0, none⟩ = some (.int .i64 t159) := (by simp [World.cell?, kB])
                have fB1 : wC.cell? ⟨wB.heap.size, 1, none⟩ = some (.int .i64 t160) := (by simp [World.cell?, kB])
                have fB2 : wC.cell? ⟨wB.heap.size, 2, none⟩ = some (.int .i64 t161) := (by simp [World.cell?, kB])
                have fB3 : wC.cell? ⟨wB.heap.size, 3, none⟩ = some (.int .i64 t162) := (by simp [World.cell?, kB])
                have fB4 : wC.cell? ⟨wB.heap.size, 4, none⟩ = some (.int .i64 t163) := (by simp [World.cell?, kB])
                clear kA kB hb hsz hsA
                go_wp2
                go_ret
                exact ⟨by first | rfl | (simp; done) | (simp [*]; done), by first | exact HBC.out.alloc HBC.out.size _ | exact HBC.out⟩
            · rw [if_neg c11] at H
              have c11b0 : (t152 == t159 && (t153 == t160 && (t154 == t161 && (t155 == t162 && (t156 == t163))))) = false := by simpa using c11
              (try (have c11b1 : decide (t152 = t159 && (t153 == t160 && (t154 == t161 && (t155 == t162 && (t156 == t163))))) = false := by simpa using c11))
              (try (have c11b2 : (t152 == t159 && (t153 == t160 && (t154 == t161 && (t155 == t162 && (t156 == t163))))) = false := by simpa using c11))
              (try (have c11b3 : ¬ (t152 = t159 && (t153 == t160 && (t154 == t161 && (t155 == t162 && (t156 == t163))))) := by simpa using c11))
              clear c11
              obtain rfl := Option.some.inj H
              go_upto_region 6 with (first | ((with_reducible refine gate_builtin (b := .append) (xs := #[.const (.slice none 0 0), .tmp 21]) rfl ?_); at_builtin; refine Kd.R_append_rows (Kd.int .u8) (w0 := w) w.heap.size rfl (.const (.slice none 0 0)) (.tmp 21) 25 5 (.int .u8 0) 1 rfl Try.underlying25 info5 rfl (by decide) (by omega) (.slice none 0 0) ([] : List Int) l0 _ _ _ (fun _ => True) (fun _ => False) rfl rfl ?aO ?aR (fun _ _ h => h) (fun _ h => h.elim) ?aF ?aB ?aS ?aL ?_; (case aR => repeat (first | exact (Kd.C_below HR0.out HB.out) | (with_reducible refine Kd.C_alloc ?_ _) | (with_reducible refine Kd.C_drewN ?_ _) | (with_reducible refine Kd.C_drew ?_))); (case aB => exact (by repeat (first | (with_reducible first | exact HB.out | apply below_alloc | apply Go.Proofs.Ytjicpadeplminaa.Ext.below_bytes | apply pw_below_drewN | apply below_drew1) | exact HB.out))); (case aF => exact (fun _ _ => trivial)); (case aO => exact ((Kd.R_nil _ _ _ _ (fun _ => True)))); (case aS => exact (below_size (by repeat (first | (with_reducible first | exact HB.out | apply below_alloc | apply Go.Proofs.Ytjicpadeplminaa.Ext.below_bytes | apply pw_below_drewN | apply below_drew1) | exact HB.out)))); (case aL => have := LMc7.out; omega); intro v150 w62 ho hb hg hat; rw [← Ny149.out] at ho; have n0_ := Aside0.mk (hb); have n1_ := Aside0.mk (ho); clear HB; have HB := n0_; have HO151 := n1_; clear n0_ n1_; clear ho hb hg hat; obtain ⟨Ao63, co63, eo63⟩ := Kd.R_slice HO151.out; subst eo63) | ((with_reducible refine gate_callee (f := 13) rfl ?_); refine goesL_ (some 23) rfl rfl Try.func13 (by kernel_rfl) rfl #[.slice Ao63 y149.length co63] rfl (by (try simp only [List.map_toArray, List.map_cons, List.map_nil]); first | done | rfl | (simp only [List.length_drop, List.length_take]; rfl) | (simp [Act.eval, *]; done)) ?_; (with_reducible refine (impl_DecodeColor.calls _ _ y149 t152 t153 t154 t155 t156 t157 _ ?side1 ?side2 A8.out).mono ?_); (case side1 => repeat (first | exact (Kd.R_reads' HO151.out).2.2 | (with_reducible refine Kd.C_alloc ?_ _) | (with_reducible refine Kd.C_drewN ?_ _) | (with_reducible refine Kd.C_drew ?_))); (case side2 => exact (Kd.R_reads' HO151.out).2.1); rintro e w64 ⟨rfl, hb⟩; refine ⟨_, rfl, ?_⟩; have n0_ := Aside0.mk (Kd.R_below (by (with_reducible repeat (first | apply Kd.R_alloc | apply Go.Proofs.Ytjicpadeplminaa.Ext.R_bytes | apply Kd.R_drewN | apply Kd.R_drew)); exact HO151.out) hb); have n1_ := Aside0.mk (below_step (by repeat (first | (with_reducible first | exact HB.out | apply below_alloc | apply Go.Proofs.Ytjicpadeplminaa.Ext.below_bytes | apply pw_below_drewN | apply below_drew1) | exact HB.out)) hb); clear HO151; clear HB; have HO151 := n0_; have HB := n1_; clear n0_ n1_; (try clear hb); (try clear hb2); (try clear hk); (try clear hi)))
              go_upto_region 7 with (go_at_call 14; (with_reducible refine (spec_SixelColorIn.calls _ _ l0 t159 t160 t161 t162 t163 t164 _ ?s1 ?s2 A9.out).mono ?_); (case s1 => exact Kd.C_below HR0.out (HB.out.alloc HB.out.size _)); (case s2 => exact HC0.out); rintro e wB ⟨rfl, hb⟩; have kA := (hb.block w64.heap.size (by simp)).trans (heap_alloc_new w64 (.cells #[.int .i64 t152, .int .i64 t153, .int .i64 t154, .int .i64 t155, .int .i64 t156] 39)); have HSA := Aside0.mk (Nat.lt_of_lt_of_le (by simp : w64.heap.size < (w64.alloc (.cells #[.int .i64 t152, .int .i64 t153, .int .i64 t154, .int .i64 t155, .int .i64 t156] 39)).heap.size) hb.size); have HKA := Aside0.mk kA; have HBB := Aside0.mk ((HB.out.alloc HB.out.size (.cells #[.int .i64 t152, .int .i64 t153, .int .i64 t154, .int .i64 t155, .int .i64 t156] 39)).trans (hb.mono (Nat.le_trans HB.out.size (by simp)))); clear kA hb)
              go_upto_region 8 with (go_at_call 13; (refine (impl_DecodeColor.calls _ _ ([35, 51] : List Int) t166 t167 t168 t169 t170 t171 _ ?side1 ?side2 A10.out).mono ?_); (case side1 => exact Go.Proofs.Ytjicpadeplminaa.Ext.C_lit_at _ ([35, 51] : List Int) _ _ _ _ (by simp) rfl (by decide)); (case side2 => exact (by decide)); rintro e wC ⟨rfl, hb⟩)
              have hsA := HSA.out
              have hsz := hb.size
              have kB := (hb.block wB.heap.size (by simp; omega)).trans ((Below.heap_alloc _ _ wB.heap.size (by simp)).trans (heap_alloc_new wB (.cells #[.int .i64 t159, .int .i64 t160, .int .i64 t161, .int .i64 t162, .int .i64 t163] 42)))
              have kA := (hb.block w64.heap.size (by simp; omega)).trans ((Below.heap_alloc _ _ w64.heap.size (by simp; omega)).trans ((Below.heap_alloc wB (.cells #[.int .i64 t159, .int .i64 t160, .int .i64 t161, .int .i64 t162, .int .i64 t163] 42) w64.heap.size hsA).trans HKA.out))
              have gB : wB.heap.size < wC.heap.size := by simp at hsz; omega
              have gA : w64.heap.size < wC.heap.size := Nat.lt_trans hsA gB
              have HBC := Aside0.mk (((HBB.out.alloc HBB.out.size (.cells #[.int .i64 t159, .int .i64 t160, .int .i64 t161, .int .i64 t162, .int .i64 t163] 42)).alloc (Nat.le_trans HBB.out.size (by simp)) _).trans (hb.mono (Nat.le_trans HBB.out.size (by simp; omega))))
              have fA0 : wC.cell? ⟨w64.heap.size, 0, none⟩ = some (.int .i64 t152) := (by simp [World.cell?, kA])
              have fA1 : wC.cell? ⟨w64.heap.size, 1, none⟩ = some (.int .i64 t153) := (by simp [World.cell?, kA])
              have fA2 : wC.cell? ⟨w64.heap.size, 2, none⟩ = some (.int .i64 t154) := (by simp [World.cell?, kA])
              have fA3 : wC.cell? ⟨w64.heap.size, 3, none⟩ = some (.int .i64 t155) := (by simp [World.cell?, kA])
              have fA4 : wC.cell? ⟨w64.heap.size, 4, none⟩ = some (.int .i64 t156) := (by simp [World.cell?, kA])
              have fB0 : wC.cell? ⟨wB.heap.size, 0, none⟩ = some (.int .i64 t159) := (by simp [World.cell?, kB])
              have fB1 : wC.cell? ⟨wB.heap.size, 1, none⟩ = some (.int .i64 t160) := (by simp [World.cell?, kB])
              have fB2 : wC.cell? ⟨wB.heap.size, 2, none⟩ = some (.int .i64 t161) := (by simp [World.cell?, kB])
              have fB3 : wC.cell? ⟨wB.heap.size, 3, none⟩ = some (.int .i64 t162) := (by simp [World.cell?, kB])
              have fB4 : wC.cell? ⟨wB.heap.size, 4, none⟩ = some (.int .i64 t163) := (by simp [World.cell?, kB])
              clear kA kB hb hsz hsA
              go_wp2
              go_ret
              exact ⟨by first | rfl | (simp; done) | (simp [*]; done), by first | exact HBC.out.alloc HBC.out.size _ | exact HBC.out⟩
          · rw [if_neg c7] at H
            exact absurd H (by simp)

/-- THE ONE PURE STATEMENT of laws_FnSixelColorRead: yours. -/
def laws_FnSixelColorRead.Pure : Prop := ∀ (l0 : List Int), l0.length ≤ maxLen → l0.length * 1 ≤ 140737488351232 → (∀ x ∈ l0, (Lit.int .u8 x).wf = true) → ∃ k, laws_FnSixelColorRead.f k l0 = some true
theorem laws_FnSixelColorRead.walk (P : laws_FnSixelColorRead.Pure) (a0 : Option Addr) (len0 cap0 : Nat) (z0 : List Int) (w : World) (w0 : (a0 = none ∧ len0 = 0 ∧ cap0 = 0 ∧ z0 = []) ∨ ∃ x, a0 = some x ∧ len0 ≤ cap0 ∧ cap0 ≤ maxLen ∧ z0.length = cap0 ∧ (∀ i, i < z0.length → w.cell? (x.add i) = some (.int .u8 (z0.getD i 0))) ∧ ∀ n ∈ z0, (Lit.int .u8 n).wf = true) (y0 : len0 * 1 ≤ 140737488351232) :
    Calls Try.prog 6 #[.slice a0 len0 cap0] w fun e w' => e = .returned (.bool true) ∧ Below w.heap.size w w' := by
  obtain ⟨l0, rfl, hr0, hm0, hw0, hc0⟩ := ReadsInt.ofRowC w0
  obtain ⟨k, h⟩ := P l0 hm0 y0 hw0
  refine (laws_FnSixelColorRead.calls k _ _ l0 true w (Kd.C_of_reads (d := (0 : Int)) (h1 := fun _ => rfl) hr0) hc0 h).mono ?_
  rintro e w' ⟨rfl, hd⟩
  exact ⟨rfl, hd⟩

end Go.Proofs.Ytjicpadeplminaa.PN
