-- Written by wip/pp.py, a program of this session, out of the translation. Not trusted: Lean checks it.
import Derived.Test.YtnjbobboookfmaaPEx0
import Derived.Test.YtnjbobboookfmaaPEx3
import Derived.Test.YtnjbobboookfmaaPEx4
namespace Go.Proofs.Ytnjbobboookfmaa.PE
open Go.RowKit Go.Proofs.YtnjbobboookfmaaW.PrintWords Go.Proofs.YtnjbobboookfmaaW.PrintLast Go.Proofs.YtnjbobboookfmaaW.PrintMore
attribute [local go_sem] max2_int min2_int max_two min_two max_three min_three max_four min_four   -- for this text's walks alone
attribute [local go_sem] Go.Proofs.Ytnjbobboookfmaa.Ext.wrap64_mod256 Go.Proofs.Ytnjbobboookfmaa.Ext.wrap64_mod32 Go.Proofs.Ytnjbobboookfmaa.Ext.i64_mod256 Go.Proofs.Ytnjbobboookfmaa.Ext.i64_mod32 Go.Proofs.Ytnjbobboookfmaa.Ext.i64_u8 Go.Proofs.Ytnjbobboookfmaa.Ext.w64_u8 Go.Proofs.Ytnjbobboookfmaa.Ext.i64_u32 Go.Proofs.Ytnjbobboookfmaa.Ext.w64_u32 
set_option linter.unusedVariables false
set_option linter.unusedSimpArgs false

/-! ### laws_FnParams: function 4 -/
mutual
def laws_FnParams.j0 : Nat → List Int → Int → List (S48) → Bool → Option (Bool)
  | 0, _, _, _, _ => none
  | k + 1, x0, x1, x6, x41 => if x41 = true then (none) else (laws_FnParams.l0 k x0 x1 x6 (x6.length : Int) 0)
def laws_FnParams.l0 : Nat → List Int → Int → List (S48) → Int → Int → Option (Bool)
  | 0, _, _, _, _, _ => none
  | k + 1, x0, x1, x42, x43, x44 => if x44 < x43 then (if 0 ≤ x44 then (if x44 < (x42.length : Int) then (if (wrap64 (x44 - 1)) ≥ 0 then (if (wrap64 (x44 - 1)) < (x0.length : Int) then (if 0 ≤ (wrap64 (x44 - 1)) then ((spec_Or.f (rd x0 (wrap64 (x44 - 1))) x1).bind fun t197 => ((spec_More.f (rd x0 (wrap64 (x44 - 1)))).bind fun t199 => (if (((rd_T48 x42 x44).f2) != (decide ((wrap64 (x44 - 1)) < (x0.length : Int)))) = true then (none) else (if ((rd_T48 x42 x44).f0) = t197 then (if (((rd_T48 x42 x44).f1) != t199) = true then (none) else ((spec_PlainAt.f x0 (wrap64 (x44 - 1))).bind fun t200 => (if ((rd_T48 x42 x44).f3) = t200 then (if (((rd_T48 x42 x44).f4) != t199) = true then (none) else ((spec_Subs.f k x0 (wrap64 (x44 - 1))).bind fun t201 => ((spec_SameInts.f k ((rd_T48 x42 x44).f5) t201).bind fun t204 => (if t204 = true then (laws_FnParams.l0 k x0 x1 x42 x43 (wrap64 (x44 + 1))) else (none))))) else (none)))) else (none))))) else (none)) else (if (((rd_T48 x42 x44).f2) != (decide ((wrap64 (x44 - 1)) < (x0.length : Int)))) = true then (none) else (if ((rd_T48 x42 x44).f0) = x1 then (if (((rd_T48 x42 x44).f1) != false) = true then (none) else ((spec_PlainAt.f x0 (wrap64 (x44 - 1))).bind fun t205 => (if ((rd_T48 x42 x44).f3) = t205 then (if (((rd_T48 x42 x44).f4) != false) = true then (none) else ((spec_Subs.f k x0 (wrap64 (x44 - 1))).bind fun t206 => ((spec_SameInts.f k ((rd_T48 x42 x44).f5) t206).bind fun t209 => (if t209 = true then (laws_FnParams.l0 k x0 x1 x42 x43 (wrap64 (x44 + 1))) else (none))))) else (none)))) else (none)))) else (if (((rd_T48 x42 x44).f2) != false) = true then (none) else (if ((rd_T48 x42 x44).f0) = x1 then (if (((rd_T48 x42 x44).f1) != false) = true then (none) else ((spec_PlainAt.f x0 (wrap64 (x44 - 1))).bind fun t210 => (if ((rd_T48 x42 x44).f3) = t210 then (if (((rd_T48 x42 x44).f4) != false) = true then (none) else ((spec_Subs.f k x0 (wrap64 (x44 - 1))).bind fun t211 => ((spec_SameInts.f k ((rd_T48 x42 x44).f5) t211).bind fun t214 => (if t214 = true then (laws_FnParams.l0 k x0 x1 x42 x43 (wrap64 (x44 + 1))) else (none))))) else (none)))) else (none)))) else (none)) else (none)) else (some true)
end
def laws_FnParams.f (k : Nat) (l0 : List Int) (a1 : Int) : Option (Bool) := if (l0.length : Int) > 2147483647 then (some true) else (if (l0.length : Int) > 40 then (some true) else (if ([] : List Int).length + l0.length < 17592186044416 then ((impl_AskParams.f k (([] : List Int) ++ l0) a1).bind fun bt188 => ((spec_Whole.f k l0).bind fun t192 => (if bt188.1 = t192 then (if (bt188.2.length : Int) = (wrap64 ((l0.length : Int) + 2)) then ((laws_packAwake.f).bind fun t193 => (laws_FnParams.j0 k l0 a1 bt188.2 (!t193))) else (laws_FnParams.j0 k l0 a1 bt188.2 true)) else (laws_FnParams.j0 k l0 a1 bt188.2 true)))) else (none)))
theorem laws_FnParams.mono_l : ∀ k, (∀ y0 y1 y2 y3, LeO (laws_FnParams.j0 k y0 y1 y2 y3) (laws_FnParams.j0 (k + 1) y0 y1 y2 y3)) ∧ (∀ y0 y1 y2 y3 y4, LeO (laws_FnParams.l0 k y0 y1 y2 y3 y4) (laws_FnParams.l0 (k + 1) y0 y1 y2 y3 y4))
  | 0 => ⟨fun _ _ _ _ r h => by simp [laws_FnParams.j0] at h, fun _ _ _ _ _ r h => by simp [laws_FnParams.l0] at h⟩
  | k + 1 => by
    obtain ⟨ih0, ih1⟩ := laws_FnParams.mono_l k
    refine ⟨?_, ?_⟩
    · intro y0 y1 y2 y3
      unfold laws_FnParams.j0
      repeat' first
      | (with_reducible exact ih0 _ _ _ _)
      | (with_reducible exact ih1 _ _ _ _ _)
      | (with_reducible exact impl_AskParams.mono _ _ _)
      | (with_reducible exact spec_SameInts.mono _ _ _)
      | (with_reducible exact spec_Subs.mono _ _ _)
      | (with_reducible exact spec_Whole.mono _ _)
      | (with_reducible exact LeO.refl _)
      | (with_reducible exact LeO.none _)
      | (with_reducible refine LeO.ite ?_ ?_)
      | (with_reducible refine LeO.bind ?_ (fun _ => ?_))
      | exact ih0 _ _ _ _
      | exact ih1 _ _ _ _ _
      | exact impl_AskParams.mono _ _ _
      | exact spec_SameInts.mono _ _ _
      | exact spec_Subs.mono _ _ _
      | exact spec_Whole.mono _ _
      | exact LeO.none _
      | refine LeO.ite ?_ ?_
      | refine LeO.bind ?_ (fun _ => ?_)
    · intro y0 y1 y2 y3 y4
      unfold laws_FnParams.l0
      repeat' first
      | (with_reducible exact ih0 _ _ _ _)
      | (with_reducible exact ih1 _ _ _ _ _)
      | (with_reducible exact impl_AskParams.mono _ _ _)
      | (with_reducible exact spec_SameInts.mono _ _ _)
      | (with_reducible exact spec_Subs.mono _ _ _)
      | (with_reducible exact spec_Whole.mono _ _)
      | (with_reducible exact LeO.refl _)
      | (with_reducible exact LeO.none _)
      | (with_reducible refine LeO.ite ?_ ?_)
      | (with_reducible refine LeO.bind ?_ (fun _ => ?_))
      | exact ih0 _ _ _ _
      | exact ih1 _ _ _ _ _
      | exact impl_AskParams.mono _ _ _
      | exact spec_SameInts.mono _ _ _
      | exact spec_Subs.mono _ _ _
      | exact spec_Whole.mono _ _
      | exact LeO.none _
      | refine LeO.ite ?_ ?_
      | refine LeO.bind ?_ (fun _ => ?_)
theorem laws_FnParams.mono : ∀ a0 a1 k, LeO (laws_FnParams.f k a0 a1) (laws_FnParams.f (k + 1) a0 a1) := by
  intro a0 a1 k
  obtain ⟨ih0, ih1⟩ := laws_FnParams.mono_l k
  unfold laws_FnParams.f
  repeat' first
      | (with_reducible exact ih0 _ _ _ _)
      | (with_reducible exact ih1 _ _ _ _ _)
      | (with_reducible exact impl_AskParams.mono _ _ _)
      | (with_reducible exact spec_SameInts.mono _ _ _)
      | (with_reducible exact spec_Subs.mono _ _ _)
      | (with_reducible exact spec_Whole.mono _ _)
      | (with_reducible exact LeO.refl _)
      | (with_reducible exact LeO.none _)
      | (with_reducible refine LeO.ite ?_ ?_)
      | (with_reducible refine LeO.bind ?_ (fun _ => ?_))
      | exact ih0 _ _ _ _
      | exact ih1 _ _ _ _ _
      | exact impl_AskParams.mono _ _ _
      | exact spec_SameInts.mono _ _ _
      | exact spec_Subs.mono _ _ _
      | exact spec_Whole.mono _ _
      | exact LeO.none _
      | refine LeO.ite ?_ ?_
      | refine LeO.bind ?_ (fun _ => ?_)
def laws_FnParams.T15 : Bool × List (List Nat × List Nat) := (true, [([], []), ([], []), ([0, 1], [0, 1]), ([2], [2]), ([], []), ([3, 4], [3, 4]), ([], []), ([], []), ([6, 7], [6, 7]), ([8], [8]), ([9, 5], [9]), ([5, 10, 0, 1, 2, 3, 4, 5], [5]), ([10, 11, 0, 1, 2, 3, 4, 5, 6, 7, 8, 9, 10, 11], [10])])
def laws_FnParams.B15 : List Nat := [0, 0, 3, 7, 0, 31, 0, 0, 192, 448, 1023, 2047, 4095]
theorem laws_FnParams.tab15 : rtab .any (opsOf Try.f4 15) = laws_FnParams.T15 := by kernel_rfl
theorem laws_FnParams.bits15 : waitsOk laws_FnParams.T15.2 laws_FnParams.B15 = true := by kernel_rfl
def laws_FnParams.T16 : Bool × List (List Nat × List Nat) := (true, [([], []), ([0], [0]), ([], []), ([1, 2], [1, 2]), ([3], [3]), ([4], [4]), ([5, 4], [4, 5]), ([4], [4]), ([6, 7, 4], [4, 6, 7]), ([4, 8], [4, 8]), ([9, 4], [9]), ([10], [10]), ([11, 10], [10, 11]), ([10], [10]), ([12, 13, 10], [10, 12, 13]), ([10, 14], [10, 14]), ([15, 10], [15]), ([16], [16]), ([17, 16], [16, 17]), ([16], [16]), ([16], [16]), ([19, 20, 16, 16], [16, 19, 20]), ([18, 21, 16], [16, 18, 21]), ([16, 22], [16, 22]), ([23, 21], [23]), ([24], [24]), ([25, 24], [24, 25]), ([24], [24]), ([26, 27, 24], [24, 26, 27]), ([24, 28], [24, 28]), ([29, 24], [29]), ([30], [30]), ([31, 30], [30, 31]), ([30], [30]), ([30], [30]), ([33, 34, 30, 30], [30, 33, 34]), ([32, 35, 35, 30], [30, 32, 35]), ([36, 30], [30, 36]), ([30, 37], [30, 37])])
def laws_FnParams.B16 : List Nat := [0, 1, 0, 7, 15, 31, 63, 31, 255, 511, 1023, 2047, 4095, 2047, 16383, 32767, 65535, 131071, 262143, 131071, 131071, 1703935, 4194303, 8388607, 16777215, 33554431, 67108863, 33554431, 268435455, 536870911, 1073741823, 2147483647, 4294967295, 2147483647, 2147483647, 27917287423, 68719476735, 137438953471, 274877906943]
theorem laws_FnParams.tab16 : rtab .any (opsOf Try.f4 16) = laws_FnParams.T16 := by kernel_rfl
theorem laws_FnParams.bits16 : waitsOk laws_FnParams.T16.2 laws_FnParams.B16 = true := by kernel_rfl
set_option maxHeartbeats 40000000 in
set_option maxRecDepth 100000 in
theorem laws_FnParams.calls (k : Nat) (A0 : Option Addr) (c0 : Nat) (l0 : List Int) (a1 : Int) (r : Bool) (w : World) (hr0 : Kd.C (Kd.int .i64) w A0 l0.length l0) (hc0 : l0.length ≤ c0) (h : laws_FnParams.f k l0 a1 = some r) :
    Calls Try.prog 4 #[.slice A0 l0.length c0, .int .i64 a1] w fun e w' => e = .returned (.bool r) ∧ Below w.heap.size w w' := by
  have hu48 := Try.underlying48
  have HR0 := Aside0.mk hr0
  have HC0 := Aside0.mk hc0
  clear hr0 hc0
  have HB := Aside0.mk (Below.refl w.heap.size w)
  have H : (if (l0.length : Int) > 2147483647 then (some true) else (if (l0.length : Int) > 40 then (some true) else (if ([] : List Int).length + l0.length < 17592186044416 then ((impl_AskParams.f k (([] : List Int) ++ l0) a1).bind fun bt188 => ((spec_Whole.f k l0).bind fun t192 => (if bt188.1 = t192 then (if (bt188.2.length : Int) = (wrap64 ((l0.length : Int) + 2)) then ((laws_packAwake.f).bind fun t193 => (laws_FnParams.j0 k l0 a1 bt188.2 (!t193))) else (laws_FnParams.j0 k l0 a1 bt188.2 true)) else (laws_FnParams.j0 k l0 a1 bt188.2 true)))) else (none)))) = some r := h
  clear h
  by_cases c3 : (l0.length : Int) > 2147483647
  · rw [if_pos c3] at H
    have c3b0 : decide (2147483647 < (l0.length : Int)) = true := decide_eq_true c3
    (try (have c3b90 := c3b0; simp only [hl194_5] at c3b90))
    have c3b1 : decide (2147483647 < l0.length) = true := decide_eq_true (by omega)
    clear c3
    obtain rfl := Option.some.inj H
    go_enter Try.func4, Try.ntmps4
    go_wp2
    go_ret
    exact ⟨by first | rfl | (simp [errW_none, errW_some] <;> rfl) | (simp [*, errW_none, errW_some] <;> rfl), by repeat (first | (with_reducible first | exact HB.out | apply below_alloc | apply Go.Proofs.Ytnjbobboookfmaa.Ext.below_bytes | apply pw_below_drewN | apply below_drew1) | exact HB.out)⟩
  · rw [if_neg c3] at H
    have c3b0 : decide (2147483647 < (l0.length : Int)) = false := decide_eq_false c3
    (try (have c3b90 := c3b0; simp only [hl194_5] at c3b90))
    have c3b1 : decide (2147483647 < l0.length) = false := decide_eq_false (by omega)
    clear c3
    by_cases c4 : (l0.length : Int) > 40
    · rw [if_pos c4] at H
      have c4b0 : decide (40 < (l0.length : Int)) = true := decide_eq_true c4
      (try (have c4b90 := c4b0; simp only [hl194_5] at c4b90))
      have c4b1 : decide (40 < l0.length) = true := decide_eq_true (by omega)
      clear c4
      obtain rfl := Option.some.inj H
      go_enter Try.func4, Try.ntmps4
      go_wp2
      go_ret
      exact ⟨by first | rfl | (simp [errW_none, errW_some] <;> rfl) | (simp [*, errW_none, errW_some] <;> rfl), by repeat (first | (with_reducible first | exact HB.out | apply below_alloc | apply Go.Proofs.Ytnjbobboookfmaa.Ext.below_bytes | apply pw_below_drewN | apply below_drew1) | exact HB.out)⟩
    · rw [if_neg c4] at H
      have c4b0 : decide (40 < (l0.length : Int)) = false := decide_eq_false c4
      (try (have c4b90 := c4b0; simp only [hl194_5] at c4b90))
      have c4b1 : decide (40 < l0.length) = false := decide_eq_false (by omega)
      clear c4
      by_cases c5 : ([] : List Int).length + l0.length < 17592186044416
      · rw [if_pos c5] at H
        have LMc5 := Aside0.mk c5
        clear c5
        obtain ⟨y185, hy185⟩ : ∃ y_ : List Int, y_ = (([] : List Int) ++ l0) := ⟨_, rfl⟩
        replace H : ((impl_AskParams.f k y185 a1).bind fun bt188 => ((spec_Whole.f k l0).bind fun t192 => (if bt188.1 = t192 then (if (bt188.2.length : Int) = (wrap64 ((l0.length : Int) + 2)) then ((laws_packAwake.f).bind fun t193 => (laws_FnParams.j0 k l0 a1 bt188.2 (!t193))) else (laws_FnParams.j0 k l0 a1 bt188.2 true)) else (laws_FnParams.j0 k l0 a1 bt188.2 true)))) = some r := by first | (rw [hy185]; with_reducible exact H) | (have H2_ := (Option.bind_some _ _).symm.trans H; rw [hy185]; with_reducible exact H2_) | (have H2_ := (Option.bind_some _ _).symm.trans H; with_reducible exact H2_) | with_reducible exact H | (rw [hy185]; exact H) | exact H
        have Ny185 := Aside0.mk hy185
        clear hy185
        replace H := Option.bind_eq_some_iff.mp H
        obtain ⟨⟨t188, t189⟩, A60, H⟩ := H
        replace H : ((spec_Whole.f k l0).bind fun t192 => (if t188 = t192 then (if (t189.length : Int) = (wrap64 ((l0.length : Int) + 2)) then ((laws_packAwake.f).bind fun t193 => (laws_FnParams.j0 k l0 a1 t189 (!t193))) else (laws_FnParams.j0 k l0 a1 t189 true)) else (laws_FnParams.j0 k l0 a1 t189 true))) = some r := H
        have A6 := Aside0.mk A60
        clear A60
        have HC7 := Aside0.mk H
        clear H
        go_enter Try.func4, Try.ntmps4
        go_upto_region 6 with (first | ((with_reducible refine gate_builtin (b := .append) (xs := #[.const (.slice none 0 0), .tmp 20]) rfl ?_); (try (refine gate_guard (by rfl) ?_; dsimp only)); at_builtin; refine Kd.R_append_rows (Kd.int .i64) (w0 := w) w.heap.size rfl (.const (.slice none 0 0)) (.tmp 20) 41 2 (.int .i64 0) 8 rfl Try.underlying41 info2 rfl (by decide) (by omega) (.slice none 0 0) ([] : List Int) l0 _ _ _ (fun _ => True) (fun _ => False) rfl rfl ?aO ?aR (fun _ _ h => h) (fun _ h => h.elim) ?aF ?aB ?aS ?aL ?_; (case aR => repeat (first | exact HR0.out | (with_reducible refine Kd.C_alloc ?_ _) | (with_reducible refine Kd.C_drewN ?_ _) | (with_reducible refine Kd.C_drew ?_))); (case aB => exact (by repeat (first | (with_reducible first | exact HB.out | apply below_alloc | apply Go.Proofs.Ytnjbobboookfmaa.Ext.below_bytes | apply pw_below_drewN | apply below_drew1) | exact HB.out))); (case aF => exact (fun _ _ => trivial)); (case aO => exact ((Kd.R_nil _ _ _ _ (fun _ => True)))); (case aS => exact (below_size (by repeat (first | (with_reducible first | exact HB.out | apply below_alloc | apply Go.Proofs.Ytnjbobboookfmaa.Ext.below_bytes | apply pw_below_drewN | apply below_drew1) | exact HB.out)))); (case aL => have := LMc5.out; omega); intro v186 w8 ho hb hg hat; rw [← Ny185.out] at ho; have n0_ := Aside0.mk (hb); have n1_ := Aside0.mk (ho); clear HB; have HB := n0_; have HO187 := n1_; clear n0_ n1_; clear ho hb hg hat; obtain ⟨Ao9, co9, eo9⟩ := Kd.R_slice HO187.out; subst eo9) | ((with_reducible refine gate_callee (f := 9) rfl ?_); refine goesL_ (some 23) rfl rfl Try.func9 (by kernel_rfl) rfl #[.slice Ao9 y185.length co9, .int .i64 a1] rfl (by (try simp only [List.map_toArray, List.map_cons, List.map_nil]); first | done | rfl | (simp only [List.length_drop, List.length_take]; rfl) | (simp [Act.eval, *]; done) | (simp [Act.eval, *]; unfold wrap64; omega)) ?_; (with_reducible refine (impl_AskParams.calls k _ _ y185 a1 t188 t189 _ ?side1 ?side2 A6.out).mono ?_); (case side1 => repeat (first | exact (Kd.R_reads' HO187.out).2.2 | (with_reducible refine Kd.C_alloc ?_ _) | (with_reducible refine Kd.C_drewN ?_ _) | (with_reducible refine Kd.C_drew ?_))); (case side2 => exact (Kd.R_reads' HO187.out).2.1); rintro e w10 ⟨v190, rfl, ho0, hb⟩; refine ⟨_, rfl, ?_⟩; have n0_ := Aside0.mk (Kd.R_below (by (with_reducible repeat (first | apply Kd.R_alloc | apply Go.Proofs.Ytnjbobboookfmaa.Ext.R_bytes | apply Kd.R_drewN | apply Kd.R_drew)); exact HO187.out) hb); have n1_ := Aside0.mk (Kd.S_lower (Kd.S_new' ho0 (Kd.R_lt (by (with_reducible repeat (first | apply Kd.R_alloc | apply Go.Proofs.Ytnjbobboookfmaa.Ext.R_bytes | apply Kd.R_drewN | apply Kd.R_drew)); exact HO187.out))) (below_size (by repeat (first | (with_reducible first | exact HB.out | apply below_alloc | apply Go.Proofs.Ytnjbobboookfmaa.Ext.below_bytes | apply pw_below_drewN | apply below_drew1) | exact HB.out)))); have n2_ := Aside0.mk (below_step (by repeat (first | (with_reducible first | exact HB.out | apply below_alloc | apply Go.Proofs.Ytnjbobboookfmaa.Ext.below_bytes | apply pw_below_drewN | apply below_drew1) | exact HB.out)) hb); clear HO187; clear HB; have HO187 := n0_; have HO191 := n1_; have HB := n2_; clear n0_ n1_ n2_; (try clear hb); (try clear hb2); (try clear hk); (try clear hi); (try clear ho0)))
        (try simp only [Act.put, List.setIfInBounds_toArray, List.set_cons_zero, List.set_cons_succ])
        go_cut [41] (fun v41 wc => ∃ (kq : Nat) (x41_6 : Bool), v41 = .bool x41_6 ∧ Aside0 (laws_FnParams.j0 kq l0 a1 t189 x41_6 = some r) ∧ Aside0 (kq ≤ k) ∧ Aside0 (Kd.S k48 48 wc w.heap.size (fun _ => True) v190 t189) ∧ Aside0 (Below w.heap.size w wc))
        case first =>
          have H := HC7.out
          clear HC7
          replace H := Option.bind_eq_some_iff.mp H
          obtain ⟨t192, A110, H⟩ := H
          replace H : (if t188 = t192 then (if (t189.length : Int) = (wrap64 ((l0.length : Int) + 2)) then ((laws_packAwake.f).bind fun t193 => (laws_FnParams.j0 k l0 a1 t189 (!t193))) else (laws_FnParams.j0 k l0 a1 t189 true)) else (laws_FnParams.j0 k l0 a1 t189 true)) = some r := H
          have A11 := Aside0.mk A110
          clear A110
          by_cases c12 : t188 = t192
          · rw [if_pos c12] at H
            have c12b0 : (t188 == t192) = true := beq_iff_eq.mpr c12
            have c12b1 : (t188 != t192) = false := bne_eq_false_iff_eq.mpr c12
            clear c12
            (first | rw [c12b0] | (simp only [i64_w, i32_w]; rw [c12b0]) | skip)
            by_cases c13 : (t189.length : Int) = (wrap64 ((l0.length : Int) + 2))
            · rw [if_pos c13] at H
              have c13b0 : ((t189.length : Int) == (wrap64 ((l0.length : Int) + 2))) = true := beq_iff_eq.mpr c13
              have c13b1 : ((t189.length : Int) != (wrap64 ((l0.length : Int) + 2))) = false := bne_eq_false_iff_eq.mpr c13
              clear c13
              replace H := Option.bind_eq_some_iff.mp H
              obtain ⟨t193, A140, H⟩ := H
              replace H : (laws_FnParams.j0 k l0 a1 t189 (!t193)) = some r := H
              have A14 := Aside0.mk A140
              clear A140
              have H' := Aside0.mk H
              clear H
              go_wp2_with (first | ((with_reducible refine gate_callee (f := 10) rfl ?_); refine goesL_ (some 28) rfl rfl Try.func10 (by kernel_rfl) rfl #[.slice A0 l0.length c0] rfl (by (try simp only [List.map_toArray, List.map_cons, List.map_nil]); first | done | rfl | (simp only [List.length_drop, List.length_take]; rfl) | (simp [Act.eval, *]; done) | (simp [Act.eval, *]; unfold wrap64; omega)) ?_; (with_reducible refine (spec_Whole.calls k _ _ l0 t192 _ ?side1 ?side2 A11.out).mono ?_); (case side1 => repeat (first | exact (Kd.C_below HR0.out HB.out) | (with_reducible refine Kd.C_alloc ?_ _) | (with_reducible refine Kd.C_drewN ?_ _) | (with_reducible refine Kd.C_drew ?_))); (case side2 => exact HC0.out); rintro e w' ⟨rfl, ⟨nd, rfl⟩⟩; refine ⟨_, rfl, ?_⟩; obtain ⟨Ao15, co15, eo15⟩ := Kd.S_slice HO191.out; subst eo15) | (go_at_call 11; (with_reducible refine (laws_packAwake.calls  t193 _ A14.out).mono ?_); rintro e w' ⟨rfl, ⟨nd, rfl⟩⟩))
              go_meet
              case rel => exact ⟨_, (!t193), (by first | rfl | (simp; done) | (simp [*]; done)), H', ⟨by first | omega | exact Nat.le_refl _⟩, ⟨by (with_reducible repeat (first | apply Kd.S_alloc | apply Go.Proofs.Ytnjbobboookfmaa.Ext.R_bytes | apply Kd.S_drewN | apply Kd.S_drew)); exact Kd.S_mono HO191.out (fun _ hk => trivial)⟩, ⟨by repeat (first | (with_reducible first | exact HB.out | apply below_alloc | apply Go.Proofs.Ytnjbobboookfmaa.Ext.below_bytes | apply pw_below_drewN | apply below_drew1) | exact HB.out)⟩⟩
            · rw [if_neg c13] at H
              have c13b0 : ((t189.length : Int) == (wrap64 ((l0.length : Int) + 2))) = false := beq_eq_false_iff_ne.mpr c13
              have c13b1 : ((t189.length : Int) != (wrap64 ((l0.length : Int) + 2))) = true := bne_iff_ne.mpr c13
              have H' := Aside0.mk H
              clear H
              go_wp2_with (first | ((with_reducible refine gate_callee (f := 10) rfl ?_); refine goesL_ (some 28) rfl rfl Try.func10 (by kernel_rfl) rfl #[.slice A0 l0.length c0] rfl (by (try simp only [List.map_toArray, List.map_cons, List.map_nil]); first | done | rfl | (simp only [List.length_drop, List.length_take]; rfl) | (simp [Act.eval, *]; done) | (simp [Act.eval, *]; unfold wrap64; omega)) ?_; (with_reducible refine (spec_Whole.calls k _ _ l0 t192 _ ?side1 ?side2 A11.out).mono ?_); (case side1 => repeat (first | exact (Kd.C_below HR0.out HB.out) | (with_reducible refine Kd.C_alloc ?_ _) | (with_reducible refine Kd.C_drewN ?_ _) | (with_reducible refine Kd.C_drew ?_))); (case side2 => exact HC0.out); rintro e w' ⟨rfl, ⟨nd, rfl⟩⟩; refine ⟨_, rfl, ?_⟩; obtain ⟨Ao16, co16, eo16⟩ := Kd.S_slice HO191.out; subst eo16))
              go_meet
              case rel => exact ⟨_, (true), (by first | rfl | (simp; done) | (simp [*]; done)), H', ⟨by first | omega | exact Nat.le_refl _⟩, ⟨by (with_reducible repeat (first | apply Kd.S_alloc | apply Go.Proofs.Ytnjbobboookfmaa.Ext.R_bytes | apply Kd.S_drewN | apply Kd.S_drew)); exact Kd.S_mono HO191.out (fun _ hk => trivial)⟩, ⟨by repeat (first | (with_reducible first | exact HB.out | apply below_alloc | apply Go.Proofs.Ytnjbobboookfmaa.Ext.below_bytes | apply pw_below_drewN | apply below_drew1) | exact HB.out)⟩⟩
          · rw [if_neg c12] at H
            have c12b0 : (t188 == t192) = false := beq_eq_false_iff_ne.mpr c12
            have c12b1 : (t188 != t192) = true := bne_iff_ne.mpr c12
            (first | rw [c12b0] | (simp only [i64_w, i32_w]; rw [c12b0]) | skip)
            have H' := Aside0.mk H
            clear H
            go_wp2_with (first | ((with_reducible refine gate_callee (f := 10) rfl ?_); refine goesL_ (some 28) rfl rfl Try.func10 (by kernel_rfl) rfl #[.slice A0 l0.length c0] rfl (by (try simp only [List.map_toArray, List.map_cons, List.map_nil]); first | done | rfl | (simp only [List.length_drop, List.length_take]; rfl) | (simp [Act.eval, *]; done) | (simp [Act.eval, *]; unfold wrap64; omega)) ?_; (with_reducible refine (spec_Whole.calls k _ _ l0 t192 _ ?side1 ?side2 A11.out).mono ?_); (case side1 => repeat (first | exact (Kd.C_below HR0.out HB.out) | (with_reducible refine Kd.C_alloc ?_ _) | (with_reducible refine Kd.C_drewN ?_ _) | (with_reducible refine Kd.C_drew ?_))); (case side2 => exact HC0.out); rintro e w' ⟨rfl, ⟨nd, rfl⟩⟩; refine ⟨_, rfl, ?_⟩))
            go_meet
            case rel => exact ⟨_, (true), (by first | rfl | (simp; done) | (simp [*]; done)), H', ⟨by first | omega | exact Nat.le_refl _⟩, ⟨by (with_reducible repeat (first | apply Kd.S_alloc | apply Go.Proofs.Ytnjbobboookfmaa.Ext.R_bytes | apply Kd.S_drewN | apply Kd.S_drew)); exact Kd.S_mono HO191.out (fun _ hk => trivial)⟩, ⟨by repeat (first | (with_reducible first | exact HB.out | apply below_alloc | apply Go.Proofs.Ytnjbobboookfmaa.Ext.below_bytes | apply pw_below_drewN | apply below_drew1) | exact HB.out)⟩⟩
        case rest =>
          clear HC7
          try clear c1
          try clear p2
          try clear c3
          try clear c3b0
          try clear c3b1
          try clear c4
          try clear c4b0
          try clear c4b1
          try clear c5
          try clear p6
          try clear c9
          try clear c10
          try clear c12
          try clear c12b0
          try clear c12b1
          try clear c13
          try clear c13b0
          try clear c13b1
          obtain ⟨kq, x41_6, rfl, HA, HJ6, HO_6, HB⟩ := hcut
          cases kq with
          | zero => exact absurd HA.out (by simp [laws_FnParams.j0])
          | succ kj6 =>
            have H := HA.out
            clear HA
            simp only [laws_FnParams.j0] at H
            by_cases c17 : x41_6 = true
            · subst c17
              have H1 : (none) = some r := by rw [if_pos rfl] at H; exact H
              clear H
              have H := H1
              clear H1
              exact absurd H (by simp)
            · replace c17 := Bool.eq_false_iff.mpr c17
              subst c17
              have H1 : (laws_FnParams.l0 kj6 l0 a1 t189 (t189.length : Int) 0) = some r := by rw [if_neg (show ¬ (false = true) by decide)] at H; exact H
              clear H
              have H := H1
              clear H1
              have H' := Aside0.mk H
              clear H
              obtain ⟨Ao18, co18, eo18⟩ := Kd.S_slice HO_6.out
              subst eo18
              go_wp2
              go_loopg [44] kj6 (fun kq v44 w' => ∃ (x44_2 : Int), v44 = .int .i64 x44_2 ∧ Aside0 (laws_FnParams.l0 kq l0 a1 t189 (t189.length : Int) x44_2 = some r) ∧ Aside0 (kq ≤ kj6) ∧ Aside0 (Kd.S k48 48 w' w.heap.size (fun _ => True) (.slice Ao18 t189.length co18) t189) ∧ Aside0 (Below w.heap.size w w'))
              case atStart => exact ⟨(0), (by first | rfl | (simp; done) | (simp [*]; done)), H', ⟨Nat.le_refl _⟩, ⟨by (with_reducible repeat (first | apply Kd.S_alloc | apply Go.Proofs.Ytnjbobboookfmaa.Ext.R_bytes | apply Kd.S_drewN | apply Kd.S_drew)); exact HO_6.out⟩, ⟨by repeat (first | (with_reducible first | exact HB.out | apply below_alloc | apply Go.Proofs.Ytnjbobboookfmaa.Ext.below_bytes | apply pw_below_drewN | apply below_drew1) | exact HB.out)⟩⟩
              case round =>
                clear H'
                try clear c1
                try clear p2
                try clear c3
                try clear c3b0
                try clear c3b1
                try clear c4
                try clear c4b0
                try clear c4b1
                try clear c5
                try clear p6
                try clear c9
                try clear c10
                try clear c12
                try clear c12b0
                try clear c12b1
                try clear c13
                try clear c13b0
                try clear c13b1
                try clear c17
                try clear p2
                try clear p6
                obtain ⟨x44_2, rfl, HA, HK2, HO_42, HB⟩ := hrel
                cases gk with
                | zero => exact absurd HA.out (by simp [laws_FnParams.l0])
                | succ k2 =>
                  have H := HA.out
                  clear HA
                  simp only [laws_FnParams.l0] at H
                  by_cases c19 : x44_2 < (t189.length : Int)
                  · rw [if_pos c19] at H
                    have c19b0 : decide (x44_2 < (t189.length : Int)) = true := decide_eq_true c19
                    (try (have c19b90 := c19b0; simp only [hl194_5] at c19b90))
                    clear c19
                    by_cases c20 : 0 ≤ x44_2
                    · rw [if_pos c20] at H
                      have c20b0 : decide (0 ≤ x44_2) = true := decide_eq_true c20
                      clear c20
                      by_cases c21 : x44_2 < (t189.length : Int)
                      · rw [if_pos c21] at H
                        have c21b0 : decide (x44_2 < (t189.length : Int)) = true := decide_eq_true c21
                        (try (have c21b90 := c21b0; simp only [hl194_5] at c21b90))
                        clear c21
                        by_cases c22 : (wrap64 (x44_2 - 1)) ≥ 0
                        · rw [if_pos c22] at H
                          have c22b0 : decide (0 ≤ (wrap64 (x44_2 - 1))) = true := decide_eq_true c22
                          clear c22
                          by_cases c23 : (wrap64 (x44_2 - 1)) < (l0.length : Int)
                          · rw [if_pos c23] at H
                            have c23b0 : decide ((wrap64 (x44_2 - 1)) < (l0.length : Int)) = true := decide_eq_true c23
                            (try (have c23b90 := c23b0; simp only [hl194_5] at c23b90))
                            clear c23
                            obtain ⟨ji24, hji24⟩ : ∃ j_ : Int, (wrap64 (x44_2 - 1)) = j_ := ⟨_, rfl⟩
                            replace H : (if 0 ≤ (ji24) then ((spec_Or.f (rd l0 (ji24)) a1).bind fun t197 => ((spec_More.f (rd l0 (ji24))).bind fun t199 => (if (((rd_T48 t189 x44_2).f2) != (decide ((ji24) < (l0.length : Int)))) = true then (none) else (if ((rd_T48 t189 x44_2).f0) = t197 then (if (((rd_T48 t189 x44_2).f1) != t199) = true then (none) else ((spec_PlainAt.f l0 (ji24)).bind fun t200 => (if ((rd_T48 t189 x44_2).f3) = t200 then (if (((rd_T48 t189 x44_2).f4) != t199) = true then (none) else ((spec_Subs.f k2 l0 (ji24)).bind fun t201 => ((spec_SameInts.f k2 ((rd_T48 t189 x44_2).f5) t201).bind fun t204 => (if t204 = true then (laws_FnParams.l0 k2 l0 a1 t189 (t189.length : Int) (wrap64 (x44_2 + 1))) else (none))))) else (none)))) else (none))))) else (none)) = some r := by first | (rw [hji24] at H; exact H) | (simp only [hji24] at H ⊢; exact H)
                            (try rw [hji24] at c22b0)
                            (try rw [hji24] at c23b0)
                            have hji24w : (IntKind.i64.wrap (x44_2 - 1)) = ji24 := (i64_w _).trans hji24
                            by_cases c25 : 0 ≤ (ji24)
                            · rw [if_pos c25] at H
                              have c25b0 : decide (0 ≤ (ji24)) = true := decide_eq_true c25
                              clear c25
                              replace H := Option.bind_eq_some_iff.mp H
                              obtain ⟨t197, A260, H⟩ := H
                              replace H : ((spec_More.f (rd l0 (ji24))).bind fun t199 => (if (((rd_T48 t189 x44_2).f2) != (decide ((ji24) < (l0.length : Int)))) = true then (none) else (if ((rd_T48 t189 x44_2).f0) = t197 then (if (((rd_T48 t189 x44_2).f1) != t199) = true then (none) else ((spec_PlainAt.f l0 (ji24)).bind fun t200 => (if ((rd_T48 t189 x44_2).f3) = t200 then (if (((rd_T48 t189 x44_2).f4) != t199) = true then (none) else ((spec_Subs.f k2 l0 (ji24)).bind fun t201 => ((spec_SameInts.f k2 ((rd_T48 t189 x44_2).f5) t201).bind fun t204 => (if t204 = true then (laws_FnParams.l0 k2 l0 a1 t189 (t189.length : Int) (wrap64 (x44_2 + 1))) else (none))))) else (none)))) else (none)))) = some r := H
                              have A26 := Aside0.mk A260
                              clear A260
                              replace H := Option.bind_eq_some_iff.mp H
                              obtain ⟨t199, A270, H⟩ := H
                              replace H : (if (((rd_T48 t189 x44_2).f2) != (decide ((ji24) < (l0.length : Int)))) = true then (none) else (if ((rd_T48 t189 x44_2).f0) = t197 then (if (((rd_T48 t189 x44_2).f1) != t199) = true then (none) else ((spec_PlainAt.f l0 (ji24)).bind fun t200 => (if ((rd_T48 t189 x44_2).f3) = t200 then (if (((rd_T48 t189 x44_2).f4) != t199) = true then (none) else ((spec_Subs.f k2 l0 (ji24)).bind fun t201 => ((spec_SameInts.f k2 ((rd_T48 t189 x44_2).f5) t201).bind fun t204 => (if t204 = true then (laws_FnParams.l0 k2 l0 a1 t189 (t189.length : Int) (wrap64 (x44_2 + 1))) else (none))))) else (none)))) else (none))) = some r := H
                              have A27 := Aside0.mk A270
                              clear A270
                              by_cases c28 : (((rd_T48 t189 x44_2).f2) != (decide ((ji24) < (l0.length : Int)))) = true
                              · rw [if_pos c28] at H
                                exact absurd H (by simp)
                              · rw [if_neg c28] at H
                                have c28b0 : (((rd_T48 t189 x44_2).f2) != (decide ((ji24) < (l0.length : Int)))) = false := by simpa using c28
                                (try (have c28b8t : (!(rd_T48 t189 x44_2).f2) = false := by have e_ : (decide ((ji24) < (l0.length : Int))) = true := (by first | assumption | (simp only [← hji24]; assumption) | (simp only [hji24]; assumption)); have h_ := c28b0; rw [e_] at h_; simpa using h_))
                                (try (have c28b1 : decide (((rd_T48 t189 x44_2).f2) = (decide ((ji24) < (l0.length : Int)))) = true := by simpa using c28))
                                (try (have c28b2 : (((rd_T48 t189 x44_2).f2) == (decide ((ji24) < (l0.length : Int)))) = true := by simpa using c28))
                                clear c28
                                by_cases c29 : ((rd_T48 t189 x44_2).f0) = t197
                                · rw [if_pos c29] at H
                                  have c29b0 : (((rd_T48 t189 x44_2).f0) == t197) = true := beq_iff_eq.mpr c29
                                  have c29b1 : (((rd_T48 t189 x44_2).f0) != t197) = false := bne_eq_false_iff_eq.mpr c29
                                  clear c29
                                  by_cases c30 : (((rd_T48 t189 x44_2).f1) != t199) = true
                                  · rw [if_pos c30] at H
                                    exact absurd H (by simp)
                                  · rw [if_neg c30] at H
                                    have c30b0 : (((rd_T48 t189 x44_2).f1) != t199) = false := by simpa using c30
                                    (try (have c30b1 : decide (((rd_T48 t189 x44_2).f1) = t199) = true := by simpa using c30))
                                    (try (have c30b2 : (((rd_T48 t189 x44_2).f1) == t199) = true := by simpa using c30))
                                    clear c30
                                    replace H := Option.bind_eq_some_iff.mp H
                                    obtain ⟨t200, A310, H⟩ := H
                                    replace H : (if ((rd_T48 t189 x44_2).f3) = t200 then (if (((rd_T48 t189 x44_2).f4) != t199) = true then (none) else ((spec_Subs.f k2 l0 (ji24)).bind fun t201 => ((spec_SameInts.f k2 ((rd_T48 t189 x44_2).f5) t201).bind fun t204 => (if t204 = true then (laws_FnParams.l0 k2 l0 a1 t189 (t189.length : Int) (wrap64 (x44_2 + 1))) else (none))))) else (none)) = some r := H
                                    have A31 := Aside0.mk A310
                                    clear A310
                                    by_cases c32 : ((rd_T48 t189 x44_2).f3) = t200
                                    · rw [if_pos c32] at H
                                      have c32b0 : (((rd_T48 t189 x44_2).f3) == t200) = true := beq_iff_eq.mpr c32
                                      have c32b1 : (((rd_T48 t189 x44_2).f3) != t200) = false := bne_eq_false_iff_eq.mpr c32
                                      clear c32
                                      by_cases c33 : (((rd_T48 t189 x44_2).f4) != t199) = true
                                      · rw [if_pos c33] at H
                                        exact absurd H (by simp)
                                      · rw [if_neg c33] at H
                                        have c33b0 : (((rd_T48 t189 x44_2).f4) != t199) = false := by simpa using c33
                                        (try (have c33b1 : decide (((rd_T48 t189 x44_2).f4) = t199) = true := by simpa using c33))
                                        (try (have c33b2 : (((rd_T48 t189 x44_2).f4) == t199) = true := by simpa using c33))
                                        clear c33
                                        replace H := Option.bind_eq_some_iff.mp H
                                        obtain ⟨t201, A340, H⟩ := H
                                        replace H : ((spec_SameInts.f k2 ((rd_T48 t189 x44_2).f5) t201).bind fun t204 => (if t204 = true then (laws_FnParams.l0 k2 l0 a1 t189 (t189.length : Int) (wrap64 (x44_2 + 1))) else (none))) = some r := H
                                        have A34 := Aside0.mk A340
                                        clear A340
                                        replace H := Option.bind_eq_some_iff.mp H
                                        obtain ⟨t204, A350, H⟩ := H
                                        replace H : (if t204 = true then (laws_FnParams.l0 k2 l0 a1 t189 (t189.length : Int) (wrap64 (x44_2 + 1))) else (none)) = some r := H
                                        have A35 := Aside0.mk A350
                                        clear A350
                                        by_cases c36 : t204 = true
                                        · subst c36
                                          have H1 : (laws_FnParams.l0 k2 l0 a1 t189 (t189.length : Int) (wrap64 (x44_2 + 1))) = some r := by rw [if_pos rfl] at H; exact H
                                          clear H
                                          have H := H1
                                          clear H1
                                          have H' := Aside0.mk H
                                          clear H
                                          have p194 : 0 ≤ (x44_2 : Int) := of_decide_eq_true (by first | (with_reducible assumption) | assumption)
                                          have q194 : x44_2 < (t189.length : Int) := of_decide_eq_true (by first | (with_reducible assumption) | assumption)
                                          obtain ⟨ad194, A194_5, c194_5, e194, hx194_0, hx194_1, hx194_2, hx194_3, hx194_4, hx194_5, hl194_5, hi194_5⟩ := at_T48 (Kd.S_reads' HO_42.out).2.2 x44_2 p194 q194
                                          cases e194
                                          obtain ⟨ce194, hce194, hMe194, hcc194⟩ := Kd.S_get HO_42.out z48 x44_2 p194 (by first | exact q194 | exact of_decide_eq_true (by first | (with_reducible assumption) | assumption) | (have e_ := (Kd.S_reads' HO_42.out).1; omega))
                                          obtain ⟨ve194_5, rfl, ge194_5⟩ := k48_openM hMe194
                                          have hv194_5 := hcc194 5 _ rfl
                                          rw [add_field _ _ 5 (by omega)] at hv194_5
                                          replace hv194_5 := Option.some.inj (hv194_5.symm.trans hx194_5)
                                          rw [hv194_5] at ge194_5
                                          have HL194_5 := Aside0.mk (show Kd.R (Kd.int .i64) 2 _ _ _ _ ((rd_T48 t189 x44_2).f5) from ge194_5)
                                          clear hv194_5 ge194_5
                                          clear hcc194 hce194
                                          have HR194_5 := Aside0.mk hi194_5
                                          have HC194_5 := Aside0.mk hl194_5
                                          clear hi194_5 hl194_5
                                          replace p194 := eq_true p194
                                          replace q194 := eq_true q194
                                          try go_wp2_with (first | ((with_reducible refine gate_dst (N := 8) rfl ?_); (try (refine gate_guard (by rfl) ?_; dsimp only)); refine box_event ?hg (N := 8) ?hd (cs := #[.int .i64 0, .bool false, .bool false, .int .i64 0, .bool false, .slice none 0 0]) (t := 48) ?hr ?_; (case hd => rfl); (case hg => rfl); (case hr => first | (go_simp; done) | (go_simp; rfl)); intro gb195 hg w37 hbox hb; have n0_ := Aside0.mk (Kd.S_below (Kd.S_elderB (by (with_reducible repeat (first | apply Kd.S_alloc | apply Go.Proofs.Ytnjbobboookfmaa.Ext.R_bytes | apply Kd.S_drewN | apply Kd.S_drew)); exact HO_42.out) gb195 (Nat.le_of_eq hg.symm)) hb); have n1_ := Aside0.mk (Kd.R_below (by (with_reducible repeat (first | apply Kd.R_alloc | apply Go.Proofs.Ytnjbobboookfmaa.Ext.R_bytes | apply Kd.R_drewN | apply Kd.R_drew)); exact HL194_5.out) hb); have n2_ := Aside0.mk (Kd.C_below (by repeat (first | (with_reducible exact HR194_5.out) | (with_reducible refine Kd.C_alloc ?_ _) | (with_reducible refine Kd.C_drewN ?_ _) | (with_reducible refine Kd.C_drew ?_) | exact HR194_5.out)) hb); have n3_ := Aside0.mk (below_step (by repeat (first | (with_reducible first | exact HB.out | apply below_alloc | apply Go.Proofs.Ytnjbobboookfmaa.Ext.below_bytes | apply pw_below_drewN | apply below_drew1) | exact HB.out)) hb); have n4_ := Aside0.mk (hbox); have n5_ := Aside0.mk ((by rw [hg]; exact (below_size (by repeat (first | (with_reducible first | exact HB.out | apply below_alloc | apply Go.Proofs.Ytnjbobboookfmaa.Ext.below_bytes | apply pw_below_drewN | apply below_drew1) | exact HB.out))) : w.heap.size ≤ gb195)); have n6_ := Aside0.mk ((by rw [hg]; exact (below_size (by repeat (first | (with_reducible first | exact HB.out | apply below_alloc | apply Go.Proofs.Ytnjbobboookfmaa.Ext.below_bytes | apply pw_below_drewN | apply below_drew1) | exact HB.out))) : w.heap.size ≤ gb195)); clear HO_42; clear HL194_5; clear HR194_5; clear HB; have HO_42 := n0_; have HL194_5 := n1_; have HR194_5 := n2_; have HB := n3_; have BK195 := n4_; have GW195 := n5_; have GE195 := n6_; clear n0_ n1_ n2_ n3_ n4_ n5_ n6_; clear hb hbox hg; have hcz38_0 : w37.cell? ⟨gb195, 0, none⟩ = some (.int .i64 0) := (blk_cell BK195.out 0).trans rfl; have hcz38_1 : w37.cell? ⟨gb195, 1, none⟩ = some (.bool false) := (blk_cell BK195.out 1).trans rfl; have hcz38_2 : w37.cell? ⟨gb195, 2, none⟩ = some (.bool false) := (blk_cell BK195.out 2).trans rfl; have hcz38_3 : w37.cell? ⟨gb195, 3, none⟩ = some (.int .i64 0) := (blk_cell BK195.out 3).trans rfl; have hcz38_4 : w37.cell? ⟨gb195, 4, none⟩ = some (.bool false) := (blk_cell BK195.out 4).trans rfl; have hcz38_5 : w37.cell? ⟨gb195, 5, none⟩ = some (.slice none 0 0) := (blk_cell BK195.out 5).trans rfl; have hfz38_0 := blk_frozen BK195.out 0; have hfz38_1 := blk_frozen BK195.out 1; have hfz38_2 := blk_frozen BK195.out 2; have hfz38_3 := blk_frozen BK195.out 3; have hfz38_4 := blk_frozen BK195.out 4; have hfz38_5 := blk_frozen BK195.out 5))
                                          have n0_ : Aside0 (Kd.S k48 48 ((((((w37.setCell ⟨gb195, 0, none⟩ (.int .i64 ((rd_T48 t189 x44_2).f0))).setCell ⟨gb195, 1, none⟩ (.bool ((rd_T48 t189 x44_2).f1))).setCell ⟨gb195, 2, none⟩ (.bool ((rd_T48 t189 x44_2).f2))).setCell ⟨gb195, 3, none⟩ (.int .i64 ((rd_T48 t189 x44_2).f3))).setCell ⟨gb195, 4, none⟩ (.bool ((rd_T48 t189 x44_2).f4))).setCell ⟨gb195, 5, none⟩ (.slice A194_5 ((rd_T48 t189 x44_2).f5).length c194_5)) w.heap.size (fun k_ => k_ ≠ gb195) (.slice (some ad194) t189.length co18) t189) := ⟨by (with_reducible repeat (first | apply Kd.S_alloc | apply Go.Proofs.Ytnjbobboookfmaa.Ext.R_bytes | apply Kd.S_drewN | apply Kd.S_drew)); exact Kd.S_mono (Kd.S_far (p := ⟨gb195, 5, none⟩) (Kd.S_far (p := ⟨gb195, 4, none⟩) (Kd.S_far (p := ⟨gb195, 3, none⟩) (Kd.S_far (p := ⟨gb195, 2, none⟩) (Kd.S_far (p := ⟨gb195, 1, none⟩) (Kd.S_far (p := ⟨gb195, 0, none⟩) (Kd.S_mono HO_42.out (fun k_ hk => (⟨hk, hk.2⟩ : _ ∧ k_ ≠ gb195))) (fun _ hk => hk.2) (.int .i64 ((rd_T48 t189 x44_2).f0))) (fun _ hk => hk.2) (.bool ((rd_T48 t189 x44_2).f1))) (fun _ hk => hk.2) (.bool ((rd_T48 t189 x44_2).f2))) (fun _ hk => hk.2) (.int .i64 ((rd_T48 t189 x44_2).f3))) (fun _ hk => hk.2) (.bool ((rd_T48 t189 x44_2).f4))) (fun _ hk => hk.2) (.slice A194_5 ((rd_T48 t189 x44_2).f5).length c194_5)) (fun _ hk => hk.1.2)⟩
                                          have n1_ : Aside0 (Kd.R (Kd.int .i64) 2 ((((((w37.setCell ⟨gb195, 0, none⟩ (.int .i64 ((rd_T48 t189 x44_2).f0))).setCell ⟨gb195, 1, none⟩ (.bool ((rd_T48 t189 x44_2).f1))).setCell ⟨gb195, 2, none⟩ (.bool ((rd_T48 t189 x44_2).f2))).setCell ⟨gb195, 3, none⟩ (.int .i64 ((rd_T48 t189 x44_2).f3))).setCell ⟨gb195, 4, none⟩ (.bool ((rd_T48 t189 x44_2).f4))).setCell ⟨gb195, 5, none⟩ (.slice A194_5 ((rd_T48 t189 x44_2).f5).length c194_5)) w.heap.size (fun k_ => some k_ ≠ (.slice (some ad194) t189.length co18 : Value).ownBlock) (.slice A194_5 ((rd_T48 t189 x44_2).f5).length c194_5) ((rd_T48 t189 x44_2).f5)) := ⟨by (with_reducible repeat (first | apply Kd.R_alloc | apply Go.Proofs.Ytnjbobboookfmaa.Ext.R_bytes | apply Kd.R_drewN | apply Kd.R_drew)); exact Kd.R_mono (Kd.R_far (p := ⟨gb195, 5, none⟩) (Kd.R_far (p := ⟨gb195, 4, none⟩) (Kd.R_far (p := ⟨gb195, 3, none⟩) (Kd.R_far (p := ⟨gb195, 2, none⟩) (Kd.R_far (p := ⟨gb195, 1, none⟩) (Kd.R_far (p := ⟨gb195, 0, none⟩) (Kd.R_types HL194_5.out BK195.out (by decide)) (fun _ hk => hk.2) (.int .i64 ((rd_T48 t189 x44_2).f0))) (fun _ hk => hk.2) (.bool ((rd_T48 t189 x44_2).f1))) (fun _ hk => hk.2) (.bool ((rd_T48 t189 x44_2).f2))) (fun _ hk => hk.2) (.int .i64 ((rd_T48 t189 x44_2).f3))) (fun _ hk => hk.2) (.bool ((rd_T48 t189 x44_2).f4))) (fun _ hk => hk.2) (.slice A194_5 ((rd_T48 t189 x44_2).f5).length c194_5)) (fun _ hk => hk.1.2)⟩
                                          have n2_ : Aside0 (((((((w37.setCell ⟨gb195, 0, none⟩ (.int .i64 ((rd_T48 t189 x44_2).f0))).setCell ⟨gb195, 1, none⟩ (.bool ((rd_T48 t189 x44_2).f1))).setCell ⟨gb195, 2, none⟩ (.bool ((rd_T48 t189 x44_2).f2))).setCell ⟨gb195, 3, none⟩ (.int .i64 ((rd_T48 t189 x44_2).f3))).setCell ⟨gb195, 4, none⟩ (.bool ((rd_T48 t189 x44_2).f4))).setCell ⟨gb195, 5, none⟩ (.slice A194_5 ((rd_T48 t189 x44_2).f5).length c194_5)).heap[gb195]? = some (.cells #[.int .i64 ((rd_T48 t189 x44_2).f0), .bool ((rd_T48 t189 x44_2).f1), .bool ((rd_T48 t189 x44_2).f2), .int .i64 ((rd_T48 t189 x44_2).f3), .bool ((rd_T48 t189 x44_2).f4), .slice A194_5 ((rd_T48 t189 x44_2).f5).length c194_5] 48 (0, 0))) := ⟨by (with_reducible repeat (first | refine blk_drewN ?_ _ | refine blk_drew ?_ | refine blk_alloc ?_ _)); refine blk_put (cs := #[.int .i64 ((rd_T48 t189 x44_2).f0), .bool ((rd_T48 t189 x44_2).f1), .bool ((rd_T48 t189 x44_2).f2), .int .i64 ((rd_T48 t189 x44_2).f3), .bool ((rd_T48 t189 x44_2).f4), .slice none 0 0]) ?_ 5 _ rfl; (with_reducible repeat (first | refine blk_drewN ?_ _ | refine blk_drew ?_ | refine blk_alloc ?_ _)); refine blk_put (cs := #[.int .i64 ((rd_T48 t189 x44_2).f0), .bool ((rd_T48 t189 x44_2).f1), .bool ((rd_T48 t189 x44_2).f2), .int .i64 ((rd_T48 t189 x44_2).f3), .bool false, .slice none 0 0]) ?_ 4 _ rfl; (with_reducible repeat (first | refine blk_drewN ?_ _ | refine blk_drew ?_ | refine blk_alloc ?_ _)); refine blk_put (cs := #[.int .i64 ((rd_T48 t189 x44_2).f0), .bool ((rd_T48 t189 x44_2).f1), .bool ((rd_T48 t189 x44_2).f2), .int .i64 0, .bool false, .slice none 0 0]) ?_ 3 _ rfl; (with_reducible repeat (first | refine blk_drewN ?_ _ | refine blk_drew ?_ | refine blk_alloc ?_ _)); refine blk_put (cs := #[.int .i64 ((rd_T48 t189 x44_2).f0), .bool ((rd_T48 t189 x44_2).f1), .bool false, .int .i64 0, .bool false, .slice none 0 0]) ?_ 2 _ rfl; (with_reducible repeat (first | refine blk_drewN ?_ _ | refine blk_drew ?_ | refine blk_alloc ?_ _)); refine blk_put (cs := #[.int .i64 ((rd_T48 t189 x44_2).f0), .bool false, .bool false, .int .i64 0, .bool false, .slice none 0 0]) ?_ 1 _ rfl; (with_reducible repeat (first | refine blk_drewN ?_ _ | refine blk_drew ?_ | refine blk_alloc ?_ _)); refine blk_put (cs := #[.int .i64 0, .bool false, .bool false, .int .i64 0, .bool false, .slice none 0 0]) ?_ 0 _ rfl; (with_reducible repeat (first | refine blk_drewN ?_ _ | refine blk_drew ?_ | refine blk_alloc ?_ _)); exact BK195.out⟩
                                          have n3_ : Aside0 (Below w.heap.size w ((((((w37.setCell ⟨gb195, 0, none⟩ (.int .i64 ((rd_T48 t189 x44_2).f0))).setCell ⟨gb195, 1, none⟩ (.bool ((rd_T48 t189 x44_2).f1))).setCell ⟨gb195, 2, none⟩ (.bool ((rd_T48 t189 x44_2).f2))).setCell ⟨gb195, 3, none⟩ (.int .i64 ((rd_T48 t189 x44_2).f3))).setCell ⟨gb195, 4, none⟩ (.bool ((rd_T48 t189 x44_2).f4))).setCell ⟨gb195, 5, none⟩ (.slice A194_5 ((rd_T48 t189 x44_2).f5).length c194_5))) := ⟨by repeat (first | (with_reducible first | exact HB.out | apply below_alloc | apply Go.Proofs.Ytnjbobboookfmaa.Ext.below_bytes | apply pw_below_drewN | apply below_drew1 | refine below_set ?_ GE195.out) | exact HB.out)⟩
                                          (try clear HO_42)
                                          (try clear HL194_5)
                                          (try clear BK195)
                                          (try clear HB)
                                          generalize ((((((w37.setCell ⟨gb195, 0, none⟩ (.int .i64 ((rd_T48 t189 x44_2).f0))).setCell ⟨gb195, 1, none⟩ (.bool ((rd_T48 t189 x44_2).f1))).setCell ⟨gb195, 2, none⟩ (.bool ((rd_T48 t189 x44_2).f2))).setCell ⟨gb195, 3, none⟩ (.int .i64 ((rd_T48 t189 x44_2).f3))).setCell ⟨gb195, 4, none⟩ (.bool ((rd_T48 t189 x44_2).f4))).setCell ⟨gb195, 5, none⟩ (.slice A194_5 ((rd_T48 t189 x44_2).f5).length c194_5)) = w39 at n0_ n1_ n2_ n3_ ⊢
                                          have HO_42 := n0_
                                          have HL194_5 := n1_
                                          have BK195 := n2_
                                          have HB := n3_
                                          clear n0_ n1_ n2_ n3_
                                          have n0_ := Aside0.mk (Kd.S_drew HO_42.out)
                                          have n1_ := Aside0.mk (Kd.R_drew HL194_5.out)
                                          have n2_ := Aside0.mk (blk_drew BK195.out)
                                          have n3_ := Aside0.mk (below_drew1 HB.out)
                                          clear HO_42
                                          clear HL194_5
                                          clear BK195
                                          clear HB
                                          have HO_42 := n0_
                                          have HL194_5 := n1_
                                          have BK195 := n2_
                                          have HB := n3_
                                          clear n0_ n1_ n2_ n3_
                                          have p196 : 0 ≤ ((ji24) : Int) := of_decide_eq_true (by first | (with_reducible assumption) | assumption)
                                          have q196 : (ji24) < (l0.length : Int) := of_decide_eq_true (by first | (with_reducible assumption) | assumption)
                                          obtain ⟨ad196, e196, hx196_0⟩ := Kd.at_int HR0.out (ji24) p196 q196
                                          have hw196_0 := hx196_0
                                          cases e196
                                          replace hx196_0 := (HB.out.cell (World.block_lt_of_cell? w _ hx196_0)).trans hx196_0
                                          replace p196 := eq_true p196
                                          replace q196 := eq_true q196
                                          have p198 : 0 ≤ ((ji24) : Int) := of_decide_eq_true (by first | (with_reducible assumption) | assumption)
                                          have q198 : (ji24) < (l0.length : Int) := of_decide_eq_true (by first | (with_reducible assumption) | assumption)
                                          obtain ⟨ad198, e198, hx198_0⟩ := Kd.at_int HR0.out (ji24) p198 q198
                                          have hw198_0 := hx198_0
                                          obtain rfl : ad196 = ad198 := (by injection e198)
                                          replace hx198_0 := (HB.out.cell (World.block_lt_of_cell? w _ hx198_0)).trans hx198_0
                                          replace p198 := eq_true p198
                                          replace q198 := eq_true q198
                                          refine start_ (n := 13) (S := fun w' => w'.cell? (ad196.add ((ji24)).toNat) = some (.int .i64 (rd l0 (ji24))) ∧ w'.cell? (ad196.add ((ji24)).toNat) = some (.int .i64 (rd l0 (ji24)))) (ds := []) #[false, false, false, false, false, false, false, false, false, false, false, false, false] (by kernel_rfl) rfl rfl ⟨((HB.out.cell (World.block_lt_of_cell? w _ hw196_0)).trans hw196_0), ((HB.out.cell (World.block_lt_of_cell? w _ hw198_0)).trans hw198_0)⟩ (fun hHeld => ?_); refine with_tabW laws_FnParams.tab15 laws_FnParams.bits15 (fun HT_ HW_ => ?_)
                                          (try (have c28b8f : (rd_T48 t189 x44_2).f2 = false := by have e_ : (decide ((ji24) < (l0.length : Int))) = false := (by first | assumption | (simp only [← hji24]; assumption) | (simp only [hji24]; assumption)); have h_ := c28b0; rw [e_] at h_; simpa using h_))
                                          generalize w39.drew = w40 at HO_42 HL194_5 BK195 HB hx196_0 hx198_0 hHeld ⊢
                                          refine pure_ (i := 0) (N := some 61) (v := ?_) (a' := ?_) #[true, false, false, false, false, false, false, false, false, false, false, false, false] rfl rfl (any_of HT_.out (by kernel_rfl)) (fun _ _ _ h => h) (Or.inl ⟨by rfl, ?_⟩) ?_ ?_
                                          rotate_left
                                          · intro w'
                                            go_simp
                                            with_reducible rfl
                                          rotate_left
                                          · simp only [Act.put, List.setIfInBounds_toArray, List.set_cons_zero, List.set_cons_succ, i64_w, i32_w]
                                            rfl
                                          refine pure_ (i := 1) (N := some 62) (v := ?_) (a' := ?_) #[true, true, false, false, false, false, false, false, false, false, false, false, false] rfl rfl (any_of HT_.out (by kernel_rfl)) (fun _ _ _ h => h) (Or.inl ⟨by rfl, ?_⟩) ?_ ?_
                                          rotate_left
                                          · intro w'
                                            go_simp
                                            with_reducible rfl
                                          rotate_left
                                          · simp only [Act.put, List.setIfInBounds_toArray, List.set_cons_zero, List.set_cons_succ, i64_w, i32_w]
                                            rfl
                                          refine pure_ (i := 2) (N := some 63) (v := ?_) (a' := ?_) #[true, true, true, false, false, false, false, false, false, false, false, false, false] rfl rfl (any_of HT_.out (by kernel_rfl)) (fun _ _ _ h => h) (Or.inl ⟨by rfl, ?_⟩) ?_ ?_
                                          rotate_left
                                          · intro w'
                                            go_simp
                                            with_reducible rfl
                                          rotate_left
                                          · simp only [Act.put, List.setIfInBounds_toArray, List.set_cons_zero, List.set_cons_succ, i64_w, i32_w]
                                            rfl
                                          refine pure_ (i := 4) (N := some 65) (v := ?_) (a' := ?_) #[true, true, true, false, true, false, false, false, false, false, false, false, false] rfl rfl (any_of HT_.out (by kernel_rfl)) (fun _ _ _ h => h) (Or.inl ⟨by rfl, ?_⟩) ?_ ?_
                                          rotate_left
                                          · intro w'
                                            go_simp
                                            with_reducible rfl
                                          rotate_left
                                          · simp only [Act.put, List.setIfInBounds_toArray, List.set_cons_zero, List.set_cons_succ, i64_w, i32_w]
                                            rfl
                                          refine pure_ (i := 6) (N := some 67) (v := ?_) (a' := ?_) #[true, true, true, false, true, false, true, false, false, false, false, false, false] rfl rfl (any_of HT_.out (by kernel_rfl)) (fun _ _ _ h => h) (Or.inl ⟨by rfl, ?_⟩) ?_ ?_
                                          rotate_left
                                          · intro w'
                                            go_simp
                                            with_reducible rfl
                                          rotate_left
                                          · simp only [Act.put, List.setIfInBounds_toArray, List.set_cons_zero, List.set_cons_succ, i64_w, i32_w]
                                            rfl
                                          refine pure_ (i := 7) (N := some 68) (v := ?_) (a' := ?_) #[true, true, true, false, true, false, true, true, false, false, false, false, false] rfl rfl (any_of HT_.out (by kernel_rfl)) (fun _ _ _ h => h) (Or.inl ⟨by rfl, ?_⟩) ?_ ?_
                                          rotate_left
                                          · intro w'
                                            go_simp
                                            with_reducible rfl
                                          rotate_left
                                          · simp only [Act.put, List.setIfInBounds_toArray, List.set_cons_zero, List.set_cons_succ, i64_w, i32_w]
                                            rfl
                                          refine pure_ (i := 8) (N := some 69) (v := ?_) (a' := ?_) #[true, true, true, false, true, false, true, true, true, false, false, false, false] rfl rfl (any_of HT_.out (by kernel_rfl)) (fun _ _ _ h => h) (Or.inl ⟨by rfl, ?_⟩) ?_ ?_
                                          rotate_left
                                          · intro w'
                                            go_simp
                                            with_reducible rfl
                                          rotate_left
                                          · simp only [Act.put, List.setIfInBounds_toArray, List.set_cons_zero, List.set_cons_succ, i64_w, i32_w]
                                            rfl
                                          refine take_ (i := 3) (N := some 64) (v := ?_) (a' := ?_) #[true, true, true, true, true, false, true, true, true, false, false, false, false] rfl rfl (take_ofW HT_.out HW_.out (by kernel_rfl)) (fun _ _ _ h => h) (Or.inl ⟨by rfl, ?_⟩) hHeld ?_ ?_
                                          rotate_left
                                          · rintro w' ⟨s0, s1⟩
                                            go_simp
                                            with_reducible rfl
                                          rotate_left
                                          · simp only [Act.put, List.setIfInBounds_toArray, List.set_cons_zero, List.set_cons_succ, i64_w, i32_w]
                                            rfl
                                          refine take_ (i := 9) (N := some 70) (v := ?_) (a' := ?_) #[true, true, true, true, true, false, true, true, true, true, false, false, false] rfl rfl (take_ofW HT_.out HW_.out (by kernel_rfl)) (fun _ _ _ h => h) (Or.inl ⟨by rfl, ?_⟩) hHeld ?_ ?_
                                          rotate_left
                                          · rintro w' ⟨s0, s1⟩
                                            go_simp
                                            with_reducible rfl
                                          rotate_left
                                          · simp only [Act.put, List.setIfInBounds_toArray, List.set_cons_zero, List.set_cons_succ, i64_w, i32_w]
                                            rfl
                                          refine one_ (i := 5) (N := some 66) #[true, true, true, true, true, true, true, true, true, true, false, false, false] rfl rfl (one_of HT_.out (by kernel_rfl)) (by decide) (fun K hK => ?_)
                                          refine goes_ Try.func12 (by kernel_rfl) rfl #[.int .i64 (rd l0 (ji24)), .int .i64 a1] (by rfl) rfl rfl (by (try simp only [List.map_toArray, List.map_cons, List.map_nil]); first | done | (simp only [hji24]; rfl) | rfl | (simp only [List.length_drop, List.length_take]; rfl) | (simp [Act.eval, *]; done) | (simp [Act.eval, *]; unfold wrap64; omega)) ?_
                                          with_reducible refine (spec_Or.calls (rd l0 (ji24)) a1 t197 _ A26.out).mono ?_
                                          rintro e w' ⟨rfl, ⟨nd, rfl⟩⟩
                                          refine ⟨_, rfl, ?_⟩
                                          refine hK.out _ _ ⟨((HB.out.cell (World.block_lt_of_cell? w _ hw196_0)).trans hw196_0), ((HB.out.cell (World.block_lt_of_cell? w _ hw198_0)).trans hw198_0)⟩ (fun hHeld => ?_)
                                          clear hK K
                                          refine norm_ (a' := ?_) ?_ ?_
                                          rotate_left
                                          · show Act.put _ (some 66) _ = _
                                            simp only [Act.put, List.setIfInBounds_toArray, List.set_cons_zero, List.set_cons_succ, i64_w, i32_w]
                                            rfl
                                          refine one_ (i := 10) (N := some 71) #[true, true, true, true, true, true, true, true, true, true, true, false, false] rfl rfl (one_of HT_.out (by kernel_rfl)) (by decide) (fun K hK => ?_)
                                          refine goes_ Try.func13 (by kernel_rfl) rfl #[.int .i64 (rd l0 (ji24))] (by rfl) rfl rfl (by (try simp only [List.map_toArray, List.map_cons, List.map_nil]); first | done | (simp only [hji24]; rfl) | rfl | (simp only [List.length_drop, List.length_take]; rfl) | (simp [Act.eval, *]; done) | (simp [Act.eval, *]; unfold wrap64; omega)) ?_
                                          with_reducible refine (spec_More.calls (rd l0 (ji24)) t199 _ A27.out).mono ?_
                                          rintro e w' ⟨rfl, ⟨nd, rfl⟩⟩
                                          refine ⟨_, rfl, ?_⟩
                                          refine hK.out _ _ ⟨((HB.out.cell (World.block_lt_of_cell? w _ hw196_0)).trans hw196_0), ((HB.out.cell (World.block_lt_of_cell? w _ hw198_0)).trans hw198_0)⟩ (fun hHeld => ?_)
                                          clear hK K
                                          refine norm_ (a' := ?_) ?_ ?_
                                          rotate_left
                                          · show Act.put _ (some 71) _ = _
                                            simp only [Act.put, List.setIfInBounds_toArray, List.set_cons_zero, List.set_cons_succ, i64_w, i32_w]
                                            rfl
                                          refine pure_ (i := 11) (N := some 11) (v := ?_) (a' := ?_) #[true, true, true, true, true, true, true, true, true, true, true, true, false] rfl rfl (any_of HT_.out (by kernel_rfl)) (fun _ _ _ h => h) (Or.inl ⟨by rfl, ?_⟩) ?_ ?_
                                          rotate_left
                                          · intro w'
                                            go_simp
                                            with_reducible rfl
                                          rotate_left
                                          · simp only [Act.put, List.setIfInBounds_toArray, List.set_cons_zero, List.set_cons_succ, i64_w, i32_w]
                                            rfl
                                          refine pure_ (i := 12) (N := some 12) (v := ?_) (a' := ?_) #[true, true, true, true, true, true, true, true, true, true, true, true, true] rfl rfl (any_of HT_.out (by kernel_rfl)) (fun _ _ _ h => h) (Or.inl ⟨by rfl, ?_⟩) ?_ ?_
                                          rotate_left
                                          · intro w'
                                            go_simp
                                            with_reducible rfl
                                          rotate_left
                                          · simp only [Act.put, List.setIfInBounds_toArray, List.set_cons_zero, List.set_cons_succ, i64_w, i32_w]
                                            rfl
                                          refine done_ (done_of HT_.out (by kernel_rfl)) ?_
                                          try go_wp2
                                          (try (rw [drewN_self w40]; generalize hq_ : World.drewN w40 _ = w40; have n0_ : Aside0 (Kd.R (Kd.int .i64) 2 w40 w.heap.size (fun k_ => some k_ ≠ (.slice (some ad194) t189.length co18 : Value).ownBlock) (.slice A194_5 ((rd_T48 t189 x44_2).f5).length c194_5) ((rd_T48 t189 x44_2).f5)) := ⟨by rw [← hq_]; exact (by (with_reducible repeat (first | apply Kd.R_alloc | apply Go.Proofs.Ytnjbobboookfmaa.Ext.R_bytes | apply Kd.R_drewN | apply Kd.R_drew)); exact HL194_5.out)⟩; have n1_ : Aside0 (Kd.S k48 48 w40 w.heap.size (fun k_ => k_ ≠ gb195) (.slice (some ad194) t189.length co18) t189) := ⟨by rw [← hq_]; exact (by (with_reducible repeat (first | apply Kd.S_alloc | apply Go.Proofs.Ytnjbobboookfmaa.Ext.R_bytes | apply Kd.S_drewN | apply Kd.S_drew)); exact HO_42.out)⟩; have n2_ : Aside0 (w40.heap[gb195]? = some (.cells #[.int .i64 ((rd_T48 t189 x44_2).f0), .bool ((rd_T48 t189 x44_2).f1), .bool ((rd_T48 t189 x44_2).f2), .int .i64 ((rd_T48 t189 x44_2).f3), .bool ((rd_T48 t189 x44_2).f4), .slice A194_5 ((rd_T48 t189 x44_2).f5).length c194_5] 48 (0, 0))) := ⟨by rw [← hq_]; exact (by (with_reducible repeat (first | refine blk_drewN ?_ _ | refine blk_drew ?_ | refine blk_alloc ?_ _)); exact BK195.out)⟩; have n3_ : Aside0 (Below w.heap.size w w40) := ⟨by rw [← hq_]; exact (by repeat (first | (with_reducible first | exact HB.out | apply below_alloc | apply Go.Proofs.Ytnjbobboookfmaa.Ext.below_bytes | apply pw_below_drewN | apply below_drew1 | refine below_set ?_ GE195.out) | exact HB.out))⟩; clear HL194_5 HO_42 BK195 HB hq_; have HL194_5 := n0_; have HO_42 := n1_; have BK195 := n2_; have HB := n3_; clear n0_ n1_ n2_ n3_))
                                          have n0_ := Aside0.mk (Kd.S_drew HO_42.out)
                                          have n1_ := Aside0.mk (Kd.R_drew HL194_5.out)
                                          have n2_ := Aside0.mk (blk_drew BK195.out)
                                          have n3_ := Aside0.mk (below_drew1 HB.out)
                                          clear HO_42
                                          clear HL194_5
                                          clear BK195
                                          clear HB
                                          have HO_42 := n0_
                                          have HL194_5 := n1_
                                          have BK195 := n2_
                                          have HB := n3_
                                          clear n0_ n1_ n2_ n3_
                                          refine start_ (n := 39) (S := fun w' => w'.cell? ⟨gb195, 0, none⟩ = some (.int .i64 ((rd_T48 t189 x44_2).f0)) ∧ w'.cell? ⟨gb195, 1, none⟩ = some (.bool ((rd_T48 t189 x44_2).f1)) ∧ w'.cell? ⟨gb195, 2, none⟩ = some (.bool ((rd_T48 t189 x44_2).f2)) ∧ w'.cell? ⟨gb195, 3, none⟩ = some (.int .i64 ((rd_T48 t189 x44_2).f3)) ∧ w'.cell? ⟨gb195, 4, none⟩ = some (.bool ((rd_T48 t189 x44_2).f4)) ∧ w'.cell? ⟨gb195, 5, none⟩ = some (.slice A194_5 ((rd_T48 t189 x44_2).f5).length c194_5)) (ds := []) #[false, false, false, false, false, false, false, false, false, false, false, false, false, false, false, false, false, false, false, false, false, false, false, false, false, false, false, false, false, false, false, false, false, false, false, false, false, false, false] (by kernel_rfl) rfl rfl ⟨(blk_cell BK195.out 0).trans rfl, (blk_cell BK195.out 1).trans rfl, (blk_cell BK195.out 2).trans rfl, (blk_cell BK195.out 3).trans rfl, (blk_cell BK195.out 4).trans rfl, (blk_cell BK195.out 5).trans rfl⟩ (fun hHeld => ?_); refine with_tabW laws_FnParams.tab16 laws_FnParams.bits16 (fun HT_ HW_ => ?_)
                                          (try (have c28b8f : (rd_T48 t189 x44_2).f2 = false := by have e_ : (decide ((ji24) < (l0.length : Int))) = false := (by first | assumption | (simp only [← hji24]; assumption) | (simp only [hji24]; assumption)); have h_ := c28b0; rw [e_] at h_; simpa using h_))
                                          generalize w40.drew = w41 at HO_42 HL194_5 BK195 HB hHeld ⊢
                                          refine pure_ (i := 0) (N := some 72) (v := ?_) (a' := ?_) #[true, false, false, false, false, false, false, false, false, false, false, false, false, false, false, false, false, false, false, false, false, false, false, false, false, false, false, false, false, false, false, false, false, false, false, false, false, false, false] rfl rfl (any_of HT_.out (by kernel_rfl)) (fun _ _ _ h => h) (Or.inl ⟨by rfl, ?_⟩) ?_ ?_
                                          rotate_left
                                          · intro w'
                                            go_simp
                                            with_reducible rfl
                                          rotate_left
                                          · simp only [Act.put, List.setIfInBounds_toArray, List.set_cons_zero, List.set_cons_succ, i64_w, i32_w]
                                            rfl
                                          refine pure_ (i := 2) (N := some 74) (v := ?_) (a' := ?_) #[true, false, true, false, false, false, false, false, false, false, false, false, false, false, false, false, false, false, false, false, false, false, false, false, false, false, false, false, false, false, false, false, false, false, false, false, false, false, false] rfl rfl (any_of HT_.out (by kernel_rfl)) (fun _ _ _ h => h) (Or.inl ⟨by rfl, ?_⟩) ?_ ?_
                                          rotate_left
                                          · intro w'
                                            go_simp
                                            with_reducible rfl
                                          rotate_left
                                          · simp only [Act.put, List.setIfInBounds_toArray, List.set_cons_zero, List.set_cons_succ, i64_w, i32_w]
                                            rfl
                                          refine take_ (i := 1) (N := some 73) (v := ?_) (a' := ?_) #[true, true, true, false, false, false, false, false, false, false, false, false, false, false, false, false, false, false, false, false, false, false, false, false, false, false, false, false, false, false, false, false, false, false, false, false, false, false, false] rfl rfl (take_ofW HT_.out HW_.out (by kernel_rfl)) (fun _ _ _ h => h) (Or.inl ⟨by rfl, ?_⟩) hHeld ?_ ?_
                                          rotate_left
                                          · rintro w' ⟨s0, s1, s2, s3, s4, s5⟩
                                            go_simp
                                            with_reducible rfl
                                          rotate_left
                                          · simp only [Act.put, List.setIfInBounds_toArray, List.set_cons_zero, List.set_cons_succ, i64_w, i32_w]
                                            rfl
                                          refine pure_ (i := 3) (N := some 75) (v := ?_) (a' := ?_) #[true, true, true, true, false, false, false, false, false, false, false, false, false, false, false, false, false, false, false, false, false, false, false, false, false, false, false, false, false, false, false, false, false, false, false, false, false, false, false] rfl rfl (any_of HT_.out (by kernel_rfl)) (fun _ _ _ h => h) (Or.inl ⟨by rfl, ?_⟩) ?_ ?_
                                          rotate_left
                                          · intro w'
                                            go_simp
                                            with_reducible rfl
                                          rotate_left
                                          · simp only [Act.put, List.setIfInBounds_toArray, List.set_cons_zero, List.set_cons_succ, i64_w, i32_w]
                                            rfl
                                          refine pure_ (i := 4) (N := some 76) (v := ?_) (a' := ?_) #[true, true, true, true, true, false, false, false, false, false, false, false, false, false, false, false, false, false, false, false, false, false, false, false, false, false, false, false, false, false, false, false, false, false, false, false, false, false, false] rfl rfl (any_of HT_.out (by kernel_rfl)) (fun _ _ _ h => h) (Or.inl ⟨by rfl, ?_⟩) ?_ ?_
                                          rotate_left
                                          · intro w'
                                            go_simp
                                            with_reducible rfl
                                          rotate_left
                                          · simp only [Act.put, List.setIfInBounds_toArray, List.set_cons_zero, List.set_cons_succ, i64_w, i32_w]
                                            rfl
                                          refine pure_ (i := 5) (N := some 77) (v := ?_) (a' := ?_) #[true, true, true, true, true, true, false, false, false, false, false, false, false, false, false, false, false, false, false, false, false, false, false, false, false, false, false, false, false, false, false, false, false, false, false, false, false, false, false] rfl rfl (any_of HT_.out (by kernel_rfl)) (fun _ _ _ h => h) (Or.inl ⟨by rfl, ?_⟩) ?_ ?_
                                          rotate_left
                                          · intro w'
                                            go_simp
                                            with_reducible rfl
                                          rotate_left
                                          · simp only [Act.put, List.setIfInBounds_toArray, List.set_cons_zero, List.set_cons_succ, i64_w, i32_w]
                                            rfl
                                          refine pure_ (i := 7) (N := some 79) (v := ?_) (a' := ?_) #[true, true, true, true, true, true, false, true, false, false, false, false, false, false, false, false, false, false, false, false, false, false, false, false, false, false, false, false, false, false, false, false, false, false, false, false, false, false, false] rfl rfl (any_of HT_.out (by kernel_rfl)) (fun _ _ _ h => h) (Or.inl ⟨by rfl, ?_⟩) ?_ ?_
                                          rotate_left
                                          · intro w'
                                            go_simp
                                            with_reducible rfl
                                          rotate_left
                                          · simp only [Act.put, List.setIfInBounds_toArray, List.set_cons_zero, List.set_cons_succ, i64_w, i32_w]
                                            rfl
                                          refine take_ (i := 6) (N := some 78) (v := ?_) (a' := ?_) #[true, true, true, true, true, true, true, true, false, false, false, false, false, false, false, false, false, false, false, false, false, false, false, false, false, false, false, false, false, false, false, false, false, false, false, false, false, false, false] rfl rfl (take_ofW HT_.out HW_.out (by kernel_rfl)) (fun _ _ _ h => h) (Or.inl ⟨by rfl, ?_⟩) hHeld ?_ ?_
                                          rotate_left
                                          · rintro w' ⟨s0, s1, s2, s3, s4, s5⟩
                                            go_simp
                                            with_reducible rfl
                                          rotate_left
                                          · simp only [Act.put, List.setIfInBounds_toArray, List.set_cons_zero, List.set_cons_succ, i64_w, i32_w]
                                            rfl
                                          refine pure_ (i := 8) (N := some 80) (v := ?_) (a' := ?_) #[true, true, true, true, true, true, true, true, true, false, false, false, false, false, false, false, false, false, false, false, false, false, false, false, false, false, false, false, false, false, false, false, false, false, false, false, false, false, false] rfl rfl (any_of HT_.out (by kernel_rfl)) (fun _ _ _ h => h) (Or.inl ⟨by rfl, ?_⟩) ?_ ?_
                                          rotate_left
                                          · intro w'
                                            go_simp
                                            with_reducible rfl
                                          rotate_left
                                          · simp only [Act.put, List.setIfInBounds_toArray, List.set_cons_zero, List.set_cons_succ, i64_w, i32_w]
                                            rfl
                                          refine pure_ (i := 9) (N := some 81) (v := ?_) (a' := ?_) #[true, true, true, true, true, true, true, true, true, true, false, false, false, false, false, false, false, false, false, false, false, false, false, false, false, false, false, false, false, false, false, false, false, false, false, false, false, false, false] rfl rfl (any_of HT_.out (by kernel_rfl)) (fun _ _ _ h => h) (Or.inl ⟨by rfl, ?_⟩) ?_ ?_
                                          rotate_left
                                          · intro w'
                                            go_simp
                                            with_reducible rfl
                                          rotate_left
                                          · simp only [Act.put, List.setIfInBounds_toArray, List.set_cons_zero, List.set_cons_succ, i64_w, i32_w]
                                            rfl
                                          refine pure_ (i := 10) (N := some 82) (v := ?_) (a' := ?_) #[true, true, true, true, true, true, true, true, true, true, true, false, false, false, false, false, false, false, false, false, false, false, false, false, false, false, false, false, false, false, false, false, false, false, false, false, false, false, false] rfl rfl (any_of HT_.out (by kernel_rfl)) (fun _ _ _ h => h) (Or.inl ⟨by rfl, ?_⟩) ?_ ?_
                                          rotate_left
                                          · intro w'
                                            go_simp
                                            with_reducible rfl
                                          rotate_left
                                          · simp only [Act.put, List.setIfInBounds_toArray, List.set_cons_zero, List.set_cons_succ, i64_w, i32_w]
                                            rfl
                                          refine pure_ (i := 11) (N := some 83) (v := ?_) (a' := ?_) #[true, true, true, true, true, true, true, true, true, true, true, true, false, false, false, false, false, false, false, false, false, false, false, false, false, false, false, false, false, false, false, false, false, false, false, false, false, false, false] rfl rfl (any_of HT_.out (by kernel_rfl)) (fun _ _ _ h => h) (Or.inl ⟨by rfl, ?_⟩) ?_ ?_
                                          rotate_left
                                          · intro w'
                                            go_simp
                                            with_reducible rfl
                                          rotate_left
                                          · simp only [Act.put, List.setIfInBounds_toArray, List.set_cons_zero, List.set_cons_succ, i64_w, i32_w]
                                            rfl
                                          refine pure_ (i := 13) (N := some 85) (v := ?_) (a' := ?_) #[true, true, true, true, true, true, true, true, true, true, true, true, false, true, false, false, false, false, false, false, false, false, false, false, false, false, false, false, false, false, false, false, false, false, false, false, false, false, false] rfl rfl (any_of HT_.out (by kernel_rfl)) (fun _ _ _ h => h) (Or.inl ⟨by rfl, ?_⟩) ?_ ?_
                                          rotate_left
                                          · intro w'
                                            go_simp
                                            with_reducible rfl
                                          rotate_left
                                          · simp only [Act.put, List.setIfInBounds_toArray, List.set_cons_zero, List.set_cons_succ, i64_w, i32_w]
                                            rfl
                                          refine take_ (i := 12) (N := some 84) (v := ?_) (a' := ?_) #[true, true, true, true, true, true, true, true, true, true, true, true, true, true, false, false, false, false, false, false, false, false, false, false, false, false, false, false, false, false, false, false, false, false, false, false, false, false, false] rfl rfl (take_ofW HT_.out HW_.out (by kernel_rfl)) (fun _ _ _ h => h) (Or.inl ⟨by rfl, ?_⟩) hHeld ?_ ?_
                                          rotate_left
                                          · rintro w' ⟨s0, s1, s2, s3, s4, s5⟩
                                            go_simp
                                            with_reducible rfl
                                          rotate_left
                                          · simp only [Act.put, List.setIfInBounds_toArray, List.set_cons_zero, List.set_cons_succ, i64_w, i32_w]
                                            rfl
                                          refine pure_ (i := 14) (N := some 86) (v := ?_) (a' := ?_) #[true, true, true, true, true, true, true, true, true, true, true, true, true, true, true, false, false, false, false, false, false, false, false, false, false, false, false, false, false, false, false, false, false, false, false, false, false, false, false] rfl rfl (any_of HT_.out (by kernel_rfl)) (fun _ _ _ h => h) (Or.inl ⟨by rfl, ?_⟩) ?_ ?_
                                          rotate_left
                                          · intro w'
                                            go_simp
                                            with_reducible rfl
                                          rotate_left
                                          · simp only [Act.put, List.setIfInBounds_toArray, List.set_cons_zero, List.set_cons_succ, i64_w, i32_w]
                                            rfl
                                          refine pure_ (i := 15) (N := some 87) (v := ?_) (a' := ?_) #[true, true, true, true, true, true, true, true, true, true, true, true, true, true, true, true, false, false, false, false, false, false, false, false, false, false, false, false, false, false, false, false, false, false, false, false, false, false, false] rfl rfl (any_of HT_.out (by kernel_rfl)) (fun _ _ _ h => h) (Or.inl ⟨by rfl, ?_⟩) ?_ ?_
                                          rotate_left
                                          · intro w'
                                            go_simp
                                            with_reducible rfl
                                          rotate_left
                                          · simp only [Act.put, List.setIfInBounds_toArray, List.set_cons_zero, List.set_cons_succ, i64_w, i32_w]
                                            rfl
                                          refine pure_ (i := 16) (N := some 88) (v := ?_) (a' := ?_) #[true, true, true, true, true, true, true, true, true, true, true, true, true, true, true, true, true, false, false, false, false, false, false, false, false, false, false, false, false, false, false, false, false, false, false, false, false, false, false] rfl rfl (any_of HT_.out (by kernel_rfl)) (fun _ _ _ h => h) (Or.inl ⟨by rfl, ?_⟩) ?_ ?_
                                          rotate_left
                                          · intro w'
                                            go_simp
                                            with_reducible rfl
                                          rotate_left
                                          · simp only [Act.put, List.setIfInBounds_toArray, List.set_cons_zero, List.set_cons_succ, i64_w, i32_w]
                                            rfl
                                          refine pure_ (i := 17) (N := some 89) (v := ?_) (a' := ?_) #[true, true, true, true, true, true, true, true, true, true, true, true, true, true, true, true, true, true, false, false, false, false, false, false, false, false, false, false, false, false, false, false, false, false, false, false, false, false, false] rfl rfl (any_of HT_.out (by kernel_rfl)) (fun _ _ _ h => h) (Or.inl ⟨by rfl, ?_⟩) ?_ ?_
                                          rotate_left
                                          · intro w'
                                            go_simp
                                            with_reducible rfl
                                          rotate_left
                                          · simp only [Act.put, List.setIfInBounds_toArray, List.set_cons_zero, List.set_cons_succ, i64_w, i32_w]
                                            rfl
                                          refine pure_ (i := 19) (N := some 91) (v := ?_) (a' := ?_) #[true, true, true, true, true, true, true, true, true, true, true, true, true, true, true, true, true, true, false, true, false, false, false, false, false, false, false, false, false, false, false, false, false, false, false, false, false, false, false] rfl rfl (any_of HT_.out (by kernel_rfl)) (fun _ _ _ h => h) (Or.inl ⟨by rfl, ?_⟩) ?_ ?_
                                          rotate_left
                                          · intro w'
                                            go_simp
                                            with_reducible rfl
                                          rotate_left
                                          · simp only [Act.put, List.setIfInBounds_toArray, List.set_cons_zero, List.set_cons_succ, i64_w, i32_w]
                                            rfl
                                          refine pure_ (i := 20) (N := some 92) (v := ?_) (a' := ?_) #[true, true, true, true, true, true, true, true, true, true, true, true, true, true, true, true, true, true, false, true, true, false, false, false, false, false, false, false, false, false, false, false, false, false, false, false, false, false, false] rfl rfl (any_of HT_.out (by kernel_rfl)) (fun _ _ _ h => h) (Or.inl ⟨by rfl, ?_⟩) ?_ ?_
                                          rotate_left
                                          · intro w'
                                            go_simp
                                            with_reducible rfl
                                          rotate_left
                                          · simp only [Act.put, List.setIfInBounds_toArray, List.set_cons_zero, List.set_cons_succ, i64_w, i32_w]
                                            rfl
                                          refine take_ (i := 18) (N := some 90) (v := ?_) (a' := ?_) #[true, true, true, true, true, true, true, true, true, true, true, true, true, true, true, true, true, true, true, true, true, false, false, false, false, false, false, false, false, false, false, false, false, false, false, false, false, false, false] rfl rfl (take_ofW HT_.out HW_.out (by kernel_rfl)) (fun _ _ _ h => h) (Or.inl ⟨by rfl, ?_⟩) hHeld ?_ ?_
                                          rotate_left
                                          · rintro w' ⟨s0, s1, s2, s3, s4, s5⟩
                                            go_simp
                                            with_reducible rfl
                                          rotate_left
                                          · simp only [Act.put, List.setIfInBounds_toArray, List.set_cons_zero, List.set_cons_succ, i64_w, i32_w]
                                            rfl
                                          refine one_ (i := 21) (N := some 93) #[true, true, true, true, true, true, true, true, true, true, true, true, true, true, true, true, true, true, true, true, true, true, false, false, false, false, false, false, false, false, false, false, false, false, false, false, false, false, false] rfl rfl (one_of HT_.out (by kernel_rfl)) (by decide) (fun K hK => ?_)
                                          refine goes_ Try.func14 (by kernel_rfl) rfl #[.slice (some ad196) l0.length c0, .int .i64 ji24] (by rfl) rfl rfl (by (try simp only [List.map_toArray, List.map_cons, List.map_nil]); first | done | (simp only [hji24]; rfl) | rfl | (simp only [List.length_drop, List.length_take]; rfl) | (simp [Act.eval, *]; done) | (simp [Act.eval, *]; unfold wrap64; omega)) ?_
                                          with_reducible refine (spec_PlainAt.calls _ _ l0 ji24 t200 _ ?side1 ?side2 A31.out).mono ?_
                                          (case side1 => repeat (first | exact (Kd.C_below HR0.out HB.out) | (with_reducible refine Kd.C_alloc ?_ _) | (with_reducible refine Kd.C_drewN ?_ _) | (with_reducible refine Kd.C_drew ?_)))
                                          (case side2 => exact HC0.out)
                                          rintro e w' ⟨rfl, ⟨nd, rfl⟩⟩
                                          refine ⟨_, rfl, ?_⟩
                                          refine hK.out _ _ ⟨(blk_cell BK195.out 0).trans rfl, (blk_cell BK195.out 1).trans rfl, (blk_cell BK195.out 2).trans rfl, (blk_cell BK195.out 3).trans rfl, (blk_cell BK195.out 4).trans rfl, (blk_cell BK195.out 5).trans rfl⟩ (fun hHeld => ?_)
                                          clear hK K
                                          refine norm_ (a' := ?_) ?_ ?_
                                          rotate_left
                                          · show Act.put _ (some 93) _ = _
                                            simp only [Act.put, List.setIfInBounds_toArray, List.set_cons_zero, List.set_cons_succ, i64_w, i32_w]
                                            rfl
                                          refine pure_ (i := 22) (N := some 94) (v := ?_) (a' := ?_) #[true, true, true, true, true, true, true, true, true, true, true, true, true, true, true, true, true, true, true, true, true, true, true, false, false, false, false, false, false, false, false, false, false, false, false, false, false, false, false] rfl rfl (any_of HT_.out (by kernel_rfl)) (fun _ _ _ h => h) (Or.inl ⟨by rfl, ?_⟩) ?_ ?_
                                          rotate_left
                                          · intro w'
                                            go_simp
                                            with_reducible rfl
                                          rotate_left
                                          · simp only [Act.put, List.setIfInBounds_toArray, List.set_cons_zero, List.set_cons_succ, i64_w, i32_w]
                                            rfl
                                          refine pure_ (i := 23) (N := some 95) (v := ?_) (a' := ?_) #[true, true, true, true, true, true, true, true, true, true, true, true, true, true, true, true, true, true, true, true, true, true, true, true, false, false, false, false, false, false, false, false, false, false, false, false, false, false, false] rfl rfl (any_of HT_.out (by kernel_rfl)) (fun _ _ _ h => h) (Or.inl ⟨by rfl, ?_⟩) ?_ ?_
                                          rotate_left
                                          · intro w'
                                            go_simp
                                            with_reducible rfl
                                          rotate_left
                                          · simp only [Act.put, List.setIfInBounds_toArray, List.set_cons_zero, List.set_cons_succ, i64_w, i32_w]
                                            rfl
                                          refine pure_ (i := 24) (N := some 96) (v := ?_) (a' := ?_) #[true, true, true, true, true, true, true, true, true, true, true, true, true, true, true, true, true, true, true, true, true, true, true, true, true, false, false, false, false, false, false, false, false, false, false, false, false, false, false] rfl rfl (any_of HT_.out (by kernel_rfl)) (fun _ _ _ h => h) (Or.inl ⟨by rfl, ?_⟩) ?_ ?_
                                          rotate_left
                                          · intro w'
                                            go_simp
                                            with_reducible rfl
                                          rotate_left
                                          · simp only [Act.put, List.setIfInBounds_toArray, List.set_cons_zero, List.set_cons_succ, i64_w, i32_w]
                                            rfl
                                          refine pure_ (i := 25) (N := some 97) (v := ?_) (a' := ?_) #[true, true, true, true, true, true, true, true, true, true, true, true, true, true, true, true, true, true, true, true, true, true, true, true, true, true, false, false, false, false, false, false, false, false, false, false, false, false, false] rfl rfl (any_of HT_.out (by kernel_rfl)) (fun _ _ _ h => h) (Or.inl ⟨by rfl, ?_⟩) ?_ ?_
                                          rotate_left
                                          · intro w'
                                            go_simp
                                            with_reducible rfl
                                          rotate_left
                                          · simp only [Act.put, List.setIfInBounds_toArray, List.set_cons_zero, List.set_cons_succ, i64_w, i32_w]
                                            rfl
                                          refine pure_ (i := 27) (N := some 99) (v := ?_) (a' := ?_) #[true, true, true, true, true, true, true, true, true, true, true, true, true, true, true, true, true, true, true, true, true, true, true, true, true, true, false, true, false, false, false, false, false, false, false, false, false, false, false] rfl rfl (any_of HT_.out (by kernel_rfl)) (fun _ _ _ h => h) (Or.inl ⟨by rfl, ?_⟩) ?_ ?_
                                          rotate_left
                                          · intro w'
                                            go_simp
                                            with_reducible rfl
                                          rotate_left
                                          · simp only [Act.put, List.setIfInBounds_toArray, List.set_cons_zero, List.set_cons_succ, i64_w, i32_w]
                                            rfl
                                          refine take_ (i := 26) (N := some 98) (v := ?_) (a' := ?_) #[true, true, true, true, true, true, true, true, true, true, true, true, true, true, true, true, true, true, true, true, true, true, true, true, true, true, true, true, false, false, false, false, false, false, false, false, false, false, false] rfl rfl (take_ofW HT_.out HW_.out (by kernel_rfl)) (fun _ _ _ h => h) (Or.inl ⟨by rfl, ?_⟩) hHeld ?_ ?_
                                          rotate_left
                                          · rintro w' ⟨s0, s1, s2, s3, s4, s5⟩
                                            go_simp
                                            with_reducible rfl
                                          rotate_left
                                          · simp only [Act.put, List.setIfInBounds_toArray, List.set_cons_zero, List.set_cons_succ, i64_w, i32_w]
                                            rfl
                                          refine pure_ (i := 28) (N := some 100) (v := ?_) (a' := ?_) #[true, true, true, true, true, true, true, true, true, true, true, true, true, true, true, true, true, true, true, true, true, true, true, true, true, true, true, true, true, false, false, false, false, false, false, false, false, false, false] rfl rfl (any_of HT_.out (by kernel_rfl)) (fun _ _ _ h => h) (Or.inl ⟨by rfl, ?_⟩) ?_ ?_
                                          rotate_left
                                          · intro w'
                                            go_simp
                                            with_reducible rfl
                                          rotate_left
                                          · simp only [Act.put, List.setIfInBounds_toArray, List.set_cons_zero, List.set_cons_succ, i64_w, i32_w]
                                            rfl
                                          refine pure_ (i := 29) (N := some 101) (v := ?_) (a' := ?_) #[true, true, true, true, true, true, true, true, true, true, true, true, true, true, true, true, true, true, true, true, true, true, true, true, true, true, true, true, true, true, false, false, false, false, false, false, false, false, false] rfl rfl (any_of HT_.out (by kernel_rfl)) (fun _ _ _ h => h) (Or.inl ⟨by rfl, ?_⟩) ?_ ?_
                                          rotate_left
                                          · intro w'
                                            go_simp
                                            with_reducible rfl
                                          rotate_left
                                          · simp only [Act.put, List.setIfInBounds_toArray, List.set_cons_zero, List.set_cons_succ, i64_w, i32_w]
                                            rfl
                                          refine pure_ (i := 30) (N := some 102) (v := ?_) (a' := ?_) #[true, true, true, true, true, true, true, true, true, true, true, true, true, true, true, true, true, true, true, true, true, true, true, true, true, true, true, true, true, true, true, false, false, false, false, false, false, false, false] rfl rfl (any_of HT_.out (by kernel_rfl)) (fun _ _ _ h => h) (Or.inl ⟨by rfl, ?_⟩) ?_ ?_
                                          rotate_left
                                          · intro w'
                                            go_simp
                                            with_reducible rfl
                                          rotate_left
                                          · simp only [Act.put, List.setIfInBounds_toArray, List.set_cons_zero, List.set_cons_succ, i64_w, i32_w]
                                            rfl
                                          refine pure_ (i := 31) (N := some 103) (v := ?_) (a' := ?_) #[true, true, true, true, true, true, true, true, true, true, true, true, true, true, true, true, true, true, true, true, true, true, true, true, true, true, true, true, true, true, true, true, false, false, false, false, false, false, false] rfl rfl (any_of HT_.out (by kernel_rfl)) (fun _ _ _ h => h) (Or.inl ⟨by rfl, ?_⟩) ?_ ?_
                                          rotate_left
                                          · intro w'
                                            go_simp
                                            with_reducible rfl
                                          rotate_left
                                          · simp only [Act.put, List.setIfInBounds_toArray, List.set_cons_zero, List.set_cons_succ, i64_w, i32_w]
                                            rfl
                                          refine pure_ (i := 33) (N := some 105) (v := ?_) (a' := ?_) #[true, true, true, true, true, true, true, true, true, true, true, true, true, true, true, true, true, true, true, true, true, true, true, true, true, true, true, true, true, true, true, true, false, true, false, false, false, false, false] rfl rfl (any_of HT_.out (by kernel_rfl)) (fun _ _ _ h => h) (Or.inl ⟨by rfl, ?_⟩) ?_ ?_
                                          rotate_left
                                          · intro w'
                                            go_simp
                                            with_reducible rfl
                                          rotate_left
                                          · simp only [Act.put, List.setIfInBounds_toArray, List.set_cons_zero, List.set_cons_succ, i64_w, i32_w]
                                            rfl
                                          refine pure_ (i := 34) (N := some 106) (v := ?_) (a' := ?_) #[true, true, true, true, true, true, true, true, true, true, true, true, true, true, true, true, true, true, true, true, true, true, true, true, true, true, true, true, true, true, true, true, false, true, true, false, false, false, false] rfl rfl (any_of HT_.out (by kernel_rfl)) (fun _ _ _ h => h) (Or.inl ⟨by rfl, ?_⟩) ?_ ?_
                                          rotate_left
                                          · intro w'
                                            go_simp
                                            with_reducible rfl
                                          rotate_left
                                          · simp only [Act.put, List.setIfInBounds_toArray, List.set_cons_zero, List.set_cons_succ, i64_w, i32_w]
                                            rfl
                                          refine take_ (i := 32) (N := some 104) (v := ?_) (a' := ?_) #[true, true, true, true, true, true, true, true, true, true, true, true, true, true, true, true, true, true, true, true, true, true, true, true, true, true, true, true, true, true, true, true, true, true, true, false, false, false, false] rfl rfl (take_ofW HT_.out HW_.out (by kernel_rfl)) (fun _ _ _ h => h) (Or.inl ⟨by rfl, ?_⟩) hHeld ?_ ?_
                                          rotate_left
                                          · rintro w' ⟨s0, s1, s2, s3, s4, s5⟩
                                            go_simp
                                            with_reducible rfl
                                          rotate_left
                                          · simp only [Act.put, List.setIfInBounds_toArray, List.set_cons_zero, List.set_cons_succ, i64_w, i32_w]
                                            rfl
                                          refine one_ (i := 35) (N := some 107) #[true, true, true, true, true, true, true, true, true, true, true, true, true, true, true, true, true, true, true, true, true, true, true, true, true, true, true, true, true, true, true, true, true, true, true, true, false, false, false] rfl rfl (one_of HT_.out (by kernel_rfl)) (by decide) (fun K hK => ?_)
                                          refine goes_ Try.func16 (by kernel_rfl) rfl #[.slice (some ad196) l0.length c0, .int .i64 ji24] (by rfl) rfl rfl (by (try simp only [List.map_toArray, List.map_cons, List.map_nil]); first | done | (simp only [hji24]; rfl) | rfl | (simp only [List.length_drop, List.length_take]; rfl) | (simp [Act.eval, *]; done) | (simp [Act.eval, *]; unfold wrap64; omega)) ?_
                                          with_reducible refine (spec_Subs.calls k2 _ _ l0 ji24 t201 _ ?side1 ?side2 A34.out).mono ?_
                                          (case side1 => repeat (first | exact (Kd.C_below HR0.out (by repeat (first | (with_reducible first | exact HB.out | apply below_alloc | apply Go.Proofs.Ytnjbobboookfmaa.Ext.below_bytes | apply pw_below_drewN | apply below_drew1 | refine below_set ?_ GE195.out) | exact HB.out))) | (with_reducible refine Kd.C_alloc ?_ _) | (with_reducible refine Kd.C_drewN ?_ _) | (with_reducible refine Kd.C_drew ?_)))
                                          (case side2 => exact HC0.out)
                                          rintro e w42 ⟨v202, rfl, ho0, hb⟩
                                          refine ⟨_, rfl, ?_⟩
                                          have n0_ := Aside0.mk (Kd.S_elder' (by (with_reducible repeat (first | apply Kd.S_alloc | apply Go.Proofs.Ytnjbobboookfmaa.Ext.R_bytes | apply Kd.S_drewN | apply Kd.S_drew)); exact HO_42.out) (Kd.R_base ho0) hb)
                                          have n1_ := Aside0.mk (Kd.R_elder' (by (with_reducible repeat (first | apply Kd.R_alloc | apply Go.Proofs.Ytnjbobboookfmaa.Ext.R_bytes | apply Kd.R_drewN | apply Kd.R_drew)); exact HL194_5.out) (Kd.R_base ho0) hb)
                                          have n2_ := Aside0.mk (Kd.R_lower (Kd.R_new' ho0 (Kd.R_lt (by (with_reducible repeat (first | apply Kd.R_alloc | apply Go.Proofs.Ytnjbobboookfmaa.Ext.R_bytes | apply Kd.R_drewN | apply Kd.R_drew)); exact HL194_5.out))) (below_size (by repeat (first | (with_reducible first | exact HB.out | apply below_alloc | apply Go.Proofs.Ytnjbobboookfmaa.Ext.below_bytes | apply pw_below_drewN | apply below_drew1 | refine below_set ?_ GE195.out) | exact HB.out))))
                                          have n3_ := Aside0.mk (blk_below (g := gb195) (o := .cells #[.int .i64 ((rd_T48 t189 x44_2).f0), .bool ((rd_T48 t189 x44_2).f1), .bool ((rd_T48 t189 x44_2).f2), .int .i64 ((rd_T48 t189 x44_2).f3), .bool ((rd_T48 t189 x44_2).f4), .slice A194_5 ((rd_T48 t189 x44_2).f5).length c194_5] 48 (0, 0)) (by (with_reducible repeat (first | refine blk_drewN ?_ _ | refine blk_drew ?_ | refine blk_alloc ?_ _)); exact BK195.out) hb)
                                          have n4_ := Aside0.mk (below_step (by repeat (first | (with_reducible first | exact HB.out | apply below_alloc | apply Go.Proofs.Ytnjbobboookfmaa.Ext.below_bytes | apply pw_below_drewN | apply below_drew1 | refine below_set ?_ GE195.out) | exact HB.out)) hb)
                                          clear HO_42
                                          clear HL194_5
                                          clear BK195
                                          clear HB
                                          have HO_42 := n0_
                                          have HL194_5 := n1_
                                          have HO203 := n2_
                                          have BK195 := n3_
                                          have HB := n4_
                                          clear n0_ n1_ n2_ n3_ n4_
                                          (try clear hb)
                                          (try clear hb2)
                                          (try clear hk)
                                          (try clear hi)
                                          (try clear ho0)
                                          obtain ⟨Ao43, co43, eo43⟩ := Kd.R_slice HO203.out
                                          (first | subst eo43 | (injection eo43 with f1_ f2_ f3_; have f4_ := f1_.symm; have f5_ := f3_.symm; clear f1_ f2_ f3_; subst f4_; subst f5_))
                                          refine hK.out _ _ ⟨(blk_cell BK195.out 0).trans rfl, (blk_cell BK195.out 1).trans rfl, (blk_cell BK195.out 2).trans rfl, (blk_cell BK195.out 3).trans rfl, (blk_cell BK195.out 4).trans rfl, (blk_cell BK195.out 5).trans rfl⟩ (fun hHeld => ?_)
                                          clear hK K
                                          refine norm_ (a' := ?_) ?_ ?_
                                          rotate_left
                                          · show Act.put _ (some 107) _ = _
                                            simp only [Act.put, List.setIfInBounds_toArray, List.set_cons_zero, List.set_cons_succ, i64_w, i32_w]
                                            rfl
                                          refine one_ (i := 36) (N := some 108) #[true, true, true, true, true, true, true, true, true, true, true, true, true, true, true, true, true, true, true, true, true, true, true, true, true, true, true, true, true, true, true, true, true, true, true, true, true, false, false] rfl rfl (one_of HT_.out (by kernel_rfl)) (by decide) (fun K hK => ?_)
                                          refine goes_ Try.func15 (by kernel_rfl) rfl #[.slice A194_5 ((rd_T48 t189 x44_2).f5).length c194_5, .slice Ao43 t201.length co43] (by rfl) rfl rfl (by (try simp only [List.map_toArray, List.map_cons, List.map_nil]); first | done | rfl | (simp only [List.length_drop, List.length_take]; rfl) | (simp [Act.eval, *]; done) | (simp [Act.eval, *]; unfold wrap64; omega)) ?_
                                          with_reducible refine (spec_SameInts.calls k2 _ _ ((rd_T48 t189 x44_2).f5) _ _ t201 true _ ?side1 ?side2 ?side3 ?side4 A35.out).mono ?_
                                          (case side1 => repeat (first | exact ((Kd.R_reads' (by (with_reducible repeat (first | apply Kd.R_alloc | apply Go.Proofs.Ytnjbobboookfmaa.Ext.R_bytes | apply Kd.R_drewN | apply Kd.R_drew)); exact HL194_5.out)).2.2) | (with_reducible refine Kd.C_alloc ?_ _) | (with_reducible refine Kd.C_drewN ?_ _) | (with_reducible refine Kd.C_drew ?_)))
                                          (case side2 => exact HC194_5.out)
                                          (case side3 => repeat (first | exact (Kd.R_reads' HO203.out).2.2 | (with_reducible refine Kd.C_alloc ?_ _) | (with_reducible refine Kd.C_drewN ?_ _) | (with_reducible refine Kd.C_drew ?_)))
                                          (case side4 => exact (Kd.R_reads' HO203.out).2.1)
                                          rintro e w' ⟨rfl, ⟨nd, rfl⟩⟩
                                          refine ⟨_, rfl, ?_⟩
                                          refine hK.out _ _ ⟨(blk_cell BK195.out 0).trans rfl, (blk_cell BK195.out 1).trans rfl, (blk_cell BK195.out 2).trans rfl, (blk_cell BK195.out 3).trans rfl, (blk_cell BK195.out 4).trans rfl, (blk_cell BK195.out 5).trans rfl⟩ (fun hHeld => ?_)
                                          clear hK K
                                          refine norm_ (a' := ?_) ?_ ?_
                                          rotate_left
                                          · show Act.put _ (some 108) _ = _
                                            simp only [Act.put, List.setIfInBounds_toArray, List.set_cons_zero, List.set_cons_succ, i64_w, i32_w]
                                            rfl
                                          refine pure_ (i := 37) (N := some 109) (v := ?_) (a' := ?_) #[true, true, true, true, true, true, true, true, true, true, true, true, true, true, true, true, true, true, true, true, true, true, true, true, true, true, true, true, true, true, true, true, true, true, true, true, true, true, false] rfl rfl (any_of HT_.out (by kernel_rfl)) (fun _ _ _ h => h) (Or.inl ⟨by rfl, ?_⟩) ?_ ?_
                                          rotate_left
                                          · intro w'
                                            go_simp
                                            with_reducible rfl
                                          rotate_left
                                          · simp only [Act.put, List.setIfInBounds_toArray, List.set_cons_zero, List.set_cons_succ, i64_w, i32_w]
                                            rfl
                                          refine pure_ (i := 38) (N := some 110) (v := ?_) (a' := ?_) #[true, true, true, true, true, true, true, true, true, true, true, true, true, true, true, true, true, true, true, true, true, true, true, true, true, true, true, true, true, true, true, true, true, true, true, true, true, true, true] rfl rfl (any_of HT_.out (by kernel_rfl)) (fun _ _ _ h => h) (Or.inl ⟨by rfl, ?_⟩) ?_ ?_
                                          rotate_left
                                          · intro w'
                                            go_simp
                                            with_reducible rfl
                                          rotate_left
                                          · simp only [Act.put, List.setIfInBounds_toArray, List.set_cons_zero, List.set_cons_succ, i64_w, i32_w]
                                            rfl
                                          refine done_ (done_of HT_.out (by kernel_rfl)) ?_
                                          try go_wp2
                                          go_roundg k2
                                          case measure => have := HJ6.out; have := HK2.out; omega
                                          case rel => exact ⟨(wrap64 (x44_2 + 1)), (by first | rfl | (simp; done) | (simp [*]; done)), H', ⟨by have := HJ6.out; have := HK2.out; omega⟩, ⟨by (with_reducible repeat (first | apply Kd.S_alloc | apply Go.Proofs.Ytnjbobboookfmaa.Ext.R_bytes | apply Kd.S_drewN | apply Kd.S_drew)); exact Kd.S_mono HO_42.out (fun _ hk => trivial)⟩, ⟨by repeat (first | (with_reducible first | exact HB.out | apply below_alloc | apply Go.Proofs.Ytnjbobboookfmaa.Ext.below_bytes | apply pw_below_drewN | apply below_drew1 | refine below_set ?_ GE195.out) | exact HB.out)⟩⟩
                                        · replace c36 := Bool.eq_false_iff.mpr c36
                                          subst c36
                                          have H1 : (none) = some r := by rw [if_neg (show ¬ (false = true) by decide)] at H; exact H
                                          clear H
                                          have H := H1
                                          clear H1
                                          exact absurd H (by simp)
                                    · rw [if_neg c32] at H
                                      exact absurd H (by simp)
                                · rw [if_neg c29] at H
                                  exact absurd H (by simp)
                            · rw [if_neg c25] at H
                              exact absurd H (by simp)
                          · rw [if_neg c23] at H
                            have c23b0 : decide ((wrap64 (x44_2 - 1)) < (l0.length : Int)) = false := decide_eq_false c23
                            (try (have c23b90 := c23b0; simp only [hl194_5] at c23b90))
                            clear c23
                            by_cases c44 : (((rd_T48 t189 x44_2).f2) != (decide ((wrap64 (x44_2 - 1)) < (l0.length : Int)))) = true
                            · rw [if_pos c44] at H
                              exact absurd H (by simp)
                            · rw [if_neg c44] at H
                              have c44b0 : (((rd_T48 t189 x44_2).f2) != (decide ((wrap64 (x44_2 - 1)) < (l0.length : Int)))) = false := by simpa using c44
                              (try (have c44b8t : (!(rd_T48 t189 x44_2).f2) = false := by have e_ : (decide ((wrap64 (x44_2 - 1)) < (l0.length : Int))) = true := (by first | assumption); have h_ := c44b0; rw [e_] at h_; simpa using h_))
                              (try (have c44b1 : decide (((rd_T48 t189 x44_2).f2) = (decide ((wrap64 (x44_2 - 1)) < (l0.length : Int)))) = true := by simpa using c44))
                              (try (have c44b2 : (((rd_T48 t189 x44_2).f2) == (decide ((wrap64 (x44_2 - 1)) < (l0.length : Int)))) = true := by simpa using c44))
                              clear c44
                              by_cases c45 : ((rd_T48 t189 x44_2).f0) = a1
                              · rw [if_pos c45] at H
                                have c45b0 : (((rd_T48 t189 x44_2).f0) == a1) = true := beq_iff_eq.mpr c45
                                have c45b1 : (((rd_T48 t189 x44_2).f0) != a1) = false := bne_eq_false_iff_eq.mpr c45
                                clear c45
                                by_cases c46 : (((rd_T48 t189 x44_2).f1) != false) = true
                                · rw [if_pos c46] at H
                                  exact absurd H (by simp)
                                · rw [if_neg c46] at H
                                  have c46b0 : (((rd_T48 t189 x44_2).f1) != false) = false := by simpa using c46
                                  (try (have c46b1 : decide (((rd_T48 t189 x44_2).f1) = false) = true := by simpa using c46))
                                  (try (have c46b2 : (((rd_T48 t189 x44_2).f1) == false) = true := by simpa using c46))
                                  clear c46
                                  replace H := Option.bind_eq_some_iff.mp H
                                  obtain ⟨t205, A470, H⟩ := H
                                  replace H : (if ((rd_T48 t189 x44_2).f3) = t205 then (if (((rd_T48 t189 x44_2).f4) != false) = true then (none) else ((spec_Subs.f k2 l0 (wrap64 (x44_2 - 1))).bind fun t206 => ((spec_SameInts.f k2 ((rd_T48 t189 x44_2).f5) t206).bind fun t209 => (if t209 = true then (laws_FnParams.l0 k2 l0 a1 t189 (t189.length : Int) (wrap64 (x44_2 + 1))) else (none))))) else (none)) = some r := H
                                  have A47 := Aside0.mk A470
                                  clear A470
                                  by_cases c48 : ((rd_T48 t189 x44_2).f3) = t205
                                  · rw [if_pos c48] at H
                                    have c48b0 : (((rd_T48 t189 x44_2).f3) == t205) = true := beq_iff_eq.mpr c48
                                    have c48b1 : (((rd_T48 t189 x44_2).f3) != t205) = false := bne_eq_false_iff_eq.mpr c48
                                    clear c48
                                    by_cases c49 : (((rd_T48 t189 x44_2).f4) != false) = true
                                    · rw [if_pos c49] at H
                                      exact absurd H (by simp)
                                    · rw [if_neg c49] at H
                                      have c49b0 : (((rd_T48 t189 x44_2).f4) != false) = false := by simpa using c49
                                      (try (have c49b1 : decide (((rd_T48 t189 x44_2).f4) = false) = true := by simpa using c49))
                                      (try (have c49b2 : (((rd_T48 t189 x44_2).f4) == false) = true := by simpa using c49))
                                      clear c49
                                      replace H := Option.bind_eq_some_iff.mp H
                                      obtain ⟨t206, A500, H⟩ := H
                                      replace H : ((spec_SameInts.f k2 ((rd_T48 t189 x44_2).f5) t206).bind fun t209 => (if t209 = true then (laws_FnParams.l0 k2 l0 a1 t189 (t189.length : Int) (wrap64 (x44_2 + 1))) else (none))) = some r := H
                                      have A50 := Aside0.mk A500
                                      clear A500
                                      replace H := Option.bind_eq_some_iff.mp H
                                      obtain ⟨t209, A510, H⟩ := H
                                      replace H : (if t209 = true then (laws_FnParams.l0 k2 l0 a1 t189 (t189.length : Int) (wrap64 (x44_2 + 1))) else (none)) = some r := H
                                      have A51 := Aside0.mk A510
                                      clear A510
                                      by_cases c52 : t209 = true
                                      · subst c52
                                        have H1 : (laws_FnParams.l0 k2 l0 a1 t189 (t189.length : Int) (wrap64 (x44_2 + 1))) = some r := by rw [if_pos rfl] at H; exact H
                                        clear H
                                        have H := H1
                                        clear H1
                                        have H' := Aside0.mk H
                                        clear H
                                        have p194 : 0 ≤ (x44_2 : Int) := of_decide_eq_true (by first | (with_reducible assumption) | assumption)
                                        have q194 : x44_2 < (t189.length : Int) := of_decide_eq_true (by first | (with_reducible assumption) | assumption)
                                        obtain ⟨ad194, A194_5, c194_5, e194, hx194_0, hx194_1, hx194_2, hx194_3, hx194_4, hx194_5, hl194_5, hi194_5⟩ := at_T48 (Kd.S_reads' HO_42.out).2.2 x44_2 p194 q194
                                        cases e194
                                        obtain ⟨ce194, hce194, hMe194, hcc194⟩ := Kd.S_get HO_42.out z48 x44_2 p194 (by first | exact q194 | exact of_decide_eq_true (by first | (with_reducible assumption) | assumption) | (have e_ := (Kd.S_reads' HO_42.out).1; omega))
                                        obtain ⟨ve194_5, rfl, ge194_5⟩ := k48_openM hMe194
                                        have hv194_5 := hcc194 5 _ rfl
                                        rw [add_field _ _ 5 (by omega)] at hv194_5
                                        replace hv194_5 := Option.some.inj (hv194_5.symm.trans hx194_5)
                                        rw [hv194_5] at ge194_5
                                        have HL194_5 := Aside0.mk (show Kd.R (Kd.int .i64) 2 _ _ _ _ ((rd_T48 t189 x44_2).f5) from ge194_5)
                                        clear hv194_5 ge194_5
                                        clear hcc194 hce194
                                        have HR194_5 := Aside0.mk hi194_5
                                        have HC194_5 := Aside0.mk hl194_5
                                        clear hi194_5 hl194_5
                                        replace p194 := eq_true p194
                                        replace q194 := eq_true q194
                                        try go_wp2_with (first | ((with_reducible refine gate_dst (N := 8) rfl ?_); (try (refine gate_guard (by rfl) ?_; dsimp only)); refine box_event ?hg (N := 8) ?hd (cs := #[.int .i64 0, .bool false, .bool false, .int .i64 0, .bool false, .slice none 0 0]) (t := 48) ?hr ?_; (case hd => rfl); (case hg => rfl); (case hr => first | (go_simp; done) | (go_simp; rfl)); intro gb195 hg w53 hbox hb; have n0_ := Aside0.mk (Kd.S_below (Kd.S_elderB (by (with_reducible repeat (first | apply Kd.S_alloc | apply Go.Proofs.Ytnjbobboookfmaa.Ext.R_bytes | apply Kd.S_drewN | apply Kd.S_drew)); exact HO_42.out) gb195 (Nat.le_of_eq hg.symm)) hb); have n1_ := Aside0.mk (Kd.R_below (by (with_reducible repeat (first | apply Kd.R_alloc | apply Go.Proofs.Ytnjbobboookfmaa.Ext.R_bytes | apply Kd.R_drewN | apply Kd.R_drew)); exact HL194_5.out) hb); have n2_ := Aside0.mk (Kd.C_below (by repeat (first | (with_reducible exact HR194_5.out) | (with_reducible refine Kd.C_alloc ?_ _) | (with_reducible refine Kd.C_drewN ?_ _) | (with_reducible refine Kd.C_drew ?_) | exact HR194_5.out)) hb); have n3_ := Aside0.mk (below_step (by repeat (first | (with_reducible first | exact HB.out | apply below_alloc | apply Go.Proofs.Ytnjbobboookfmaa.Ext.below_bytes | apply pw_below_drewN | apply below_drew1) | exact HB.out)) hb); have n4_ := Aside0.mk (hbox); have n5_ := Aside0.mk ((by rw [hg]; exact (below_size (by repeat (first | (with_reducible first | exact HB.out | apply below_alloc | apply Go.Proofs.Ytnjbobboookfmaa.Ext.below_bytes | apply pw_below_drewN | apply below_drew1) | exact HB.out))) : w.heap.size ≤ gb195)); have n6_ := Aside0.mk ((by rw [hg]; exact (below_size (by repeat (first | (with_reducible first | exact HB.out | apply below_alloc | apply Go.Proofs.Ytnjbobboookfmaa.Ext.below_bytes | apply pw_below_drewN | apply below_drew1) | exact HB.out))) : w.heap.size ≤ gb195)); clear HO_42; clear HL194_5; clear HR194_5; clear HB; have HO_42 := n0_; have HL194_5 := n1_; have HR194_5 := n2_; have HB := n3_; have BK195 := n4_; have GW195 := n5_; have GE195 := n6_; clear n0_ n1_ n2_ n3_ n4_ n5_ n6_; clear hb hbox hg; have hcz54_0 : w53.cell? ⟨gb195, 0, none⟩ = some (.int .i64 0) := (blk_cell BK195.out 0).trans rfl; have hcz54_1 : w53.cell? ⟨gb195, 1, none⟩ = some (.bool false) := (blk_cell BK195.out 1).trans rfl; have hcz54_2 : w53.cell? ⟨gb195, 2, none⟩ = some (.bool false) := (blk_cell BK195.out 2).trans rfl; have hcz54_3 : w53.cell? ⟨gb195, 3, none⟩ = some (.int .i64 0) := (blk_cell BK195.out 3).trans rfl; have hcz54_4 : w53.cell? ⟨gb195, 4, none⟩ = some (.bool false) := (blk_cell BK195.out 4).trans rfl; have hcz54_5 : w53.cell? ⟨gb195, 5, none⟩ = some (.slice none 0 0) := (blk_cell BK195.out 5).trans rfl; have hfz54_0 := blk_frozen BK195.out 0; have hfz54_1 := blk_frozen BK195.out 1; have hfz54_2 := blk_frozen BK195.out 2; have hfz54_3 := blk_frozen BK195.out 3; have hfz54_4 := blk_frozen BK195.out 4; have hfz54_5 := blk_frozen BK195.out 5))
                                        have n0_ : Aside0 (Kd.S k48 48 ((((((w53.setCell ⟨gb195, 0, none⟩ (.int .i64 ((rd_T48 t189 x44_2).f0))).setCell ⟨gb195, 1, none⟩ (.bool ((rd_T48 t189 x44_2).f1))).setCell ⟨gb195, 2, none⟩ (.bool ((rd_T48 t189 x44_2).f2))).setCell ⟨gb195, 3, none⟩ (.int .i64 ((rd_T48 t189 x44_2).f3))).setCell ⟨gb195, 4, none⟩ (.bool ((rd_T48 t189 x44_2).f4))).setCell ⟨gb195, 5, none⟩ (.slice A194_5 ((rd_T48 t189 x44_2).f5).length c194_5)) w.heap.size (fun k_ => k_ ≠ gb195) (.slice (some ad194) t189.length co18) t189) := ⟨by (with_reducible repeat (first | apply Kd.S_alloc | apply Go.Proofs.Ytnjbobboookfmaa.Ext.R_bytes | apply Kd.S_drewN | apply Kd.S_drew)); exact Kd.S_mono (Kd.S_far (p := ⟨gb195, 5, none⟩) (Kd.S_far (p := ⟨gb195, 4, none⟩) (Kd.S_far (p := ⟨gb195, 3, none⟩) (Kd.S_far (p := ⟨gb195, 2, none⟩) (Kd.S_far (p := ⟨gb195, 1, none⟩) (Kd.S_far (p := ⟨gb195, 0, none⟩) (Kd.S_mono HO_42.out (fun k_ hk => (⟨hk, hk.2⟩ : _ ∧ k_ ≠ gb195))) (fun _ hk => hk.2) (.int .i64 ((rd_T48 t189 x44_2).f0))) (fun _ hk => hk.2) (.bool ((rd_T48 t189 x44_2).f1))) (fun _ hk => hk.2) (.bool ((rd_T48 t189 x44_2).f2))) (fun _ hk => hk.2) (.int .i64 ((rd_T48 t189 x44_2).f3))) (fun _ hk => hk.2) (.bool ((rd_T48 t189 x44_2).f4))) (fun _ hk => hk.2) (.slice A194_5 ((rd_T48 t189 x44_2).f5).length c194_5)) (fun _ hk => hk.1.2)⟩
                                        have n1_ : Aside0 (Kd.R (Kd.int .i64) 2 ((((((w53.setCell ⟨gb195, 0, none⟩ (.int .i64 ((rd_T48 t189 x44_2).f0))).setCell ⟨gb195, 1, none⟩ (.bool ((rd_T48 t189 x44_2).f1))).setCell ⟨gb195, 2, none⟩ (.bool ((rd_T48 t189 x44_2).f2))).setCell ⟨gb195, 3, none⟩ (.int .i64 ((rd_T48 t189 x44_2).f3))).setCell ⟨gb195, 4, none⟩ (.bool ((rd_T48 t189 x44_2).f4))).setCell ⟨gb195, 5, none⟩ (.slice A194_5 ((rd_T48 t189 x44_2).f5).length c194_5)) w.heap.size (fun k_ => some k_ ≠ (.slice (some ad194) t189.length co18 : Value).ownBlock) (.slice A194_5 ((rd_T48 t189 x44_2).f5).length c194_5) ((rd_T48 t189 x44_2).f5)) := ⟨by (with_reducible repeat (first | apply Kd.R_alloc | apply Go.Proofs.Ytnjbobboookfmaa.Ext.R_bytes | apply Kd.R_drewN | apply Kd.R_drew)); exact Kd.R_mono (Kd.R_far (p := ⟨gb195, 5, none⟩) (Kd.R_far (p := ⟨gb195, 4, none⟩) (Kd.R_far (p := ⟨gb195, 3, none⟩) (Kd.R_far (p := ⟨gb195, 2, none⟩) (Kd.R_far (p := ⟨gb195, 1, none⟩) (Kd.R_far (p := ⟨gb195, 0, none⟩) (Kd.R_types HL194_5.out BK195.out (by decide)) (fun _ hk => hk.2) (.int .i64 ((rd_T48 t189 x44_2).f0))) (fun _ hk => hk.2) (.bool ((rd_T48 t189 x44_2).f1))) (fun _ hk => hk.2) (.bool ((rd_T48 t189 x44_2).f2))) (fun _ hk => hk.2) (.int .i64 ((rd_T48 t189 x44_2).f3))) (fun _ hk => hk.2) (.bool ((rd_T48 t189 x44_2).f4))) (fun _ hk => hk.2) (.slice A194_5 ((rd_T48 t189 x44_2).f5).length c194_5)) (fun _ hk => hk.1.2)⟩
                                        have n2_ : Aside0 (((((((w53.setCell ⟨gb195, 0, none⟩ (.int .i64 ((rd_T48 t189 x44_2).f0))).setCell ⟨gb195, 1, none⟩ (.bool ((rd_T48 t189 x44_2).f1))).setCell ⟨gb195, 2, none⟩ (.bool ((rd_T48 t189 x44_2).f2))).setCell ⟨gb195, 3, none⟩ (.int .i64 ((rd_T48 t189 x44_2).f3))).setCell ⟨gb195, 4, none⟩ (.bool ((rd_T48 t189 x44_2).f4))).setCell ⟨gb195, 5, none⟩ (.slice A194_5 ((rd_T48 t189 x44_2).f5).length c194_5)).heap[gb195]? = some (.cells #[.int .i64 ((rd_T48 t189 x44_2).f0), .bool ((rd_T48 t189 x44_2).f1), .bool ((rd_T48 t189 x44_2).f2), .int .i64 ((rd_T48 t189 x44_2).f3), .bool ((rd_T48 t189 x44_2).f4), .slice A194_5 ((rd_T48 t189 x44_2).f5).length c194_5] 48 (0, 0))) := ⟨by (with_reducible repeat (first | refine blk_drewN ?_ _ | refine blk_drew ?_ | refine blk_alloc ?_ _)); refine blk_put (cs := #[.int .i64 ((rd_T48 t189 x44_2).f0), .bool ((rd_T48 t189 x44_2).f1), .bool ((rd_T48 t189 x44_2).f2), .int .i64 ((rd_T48 t189 x44_2).f3), .bool ((rd_T48 t189 x44_2).f4), .slice none 0 0]) ?_ 5 _ rfl; (with_reducible repeat (first | refine blk_drewN ?_ _ | refine blk_drew ?_ | refine blk_alloc ?_ _)); refine blk_put (cs := #[.int .i64 ((rd_T48 t189 x44_2).f0), .bool ((rd_T48 t189 x44_2).f1), .bool ((rd_T48 t189 x44_2).f2), .int .i64 ((rd_T48 t189 x44_2).f3), .bool false, .slice none 0 0]) ?_ 4 _ rfl; (with_reducible repeat (first | refine blk_drewN ?_ _ | refine blk_drew ?_ | refine blk_alloc ?_ _)); refine blk_put (cs := #[.int .i64 ((rd_T48 t189 x44_2).f0), .bool ((rd_T48 t189 x44_2).f1), .bool ((rd_T48 t189 x44_2).f2), .int .i64 0, .bool false, .slice none 0 0]) ?_ 3 _ rfl; (with_reducible repeat (first | refine blk_drewN ?_ _ | refine blk_drew ?_ | refine blk_alloc ?_ _)); refine blk_put (cs := #[.int .i64 ((rd_T48 t189 x44_2).f0), .bool ((rd_T48 t189 x44_2).f1), .bool false, .int .i64 0, .bool false, .slice none 0 0]) ?_ 2 _ rfl; (with_reducible repeat (first | refine blk_drewN ?_ _ | refine blk_drew ?_ | refine blk_alloc ?_ _)); refine blk_put (cs := #[.int .i64 ((rd_T48 t189 x44_2).f0), .bool false, .bool false, .int .i64 0, .bool false, .slice none 0 0]) ?_ 1 _ rfl; (with_reducible repeat (first | refine blk_drewN ?_ _ | refine blk_drew ?_ | refine blk_alloc ?_ _)); refine blk_put (cs := #[.int .i64 0, .bool false, .bool false, .int .i64 0, .bool false, .slice none 0 0]) ?_ 0 _ rfl; (with_reducible repeat (first | refine blk_drewN ?_ _ | refine blk_drew ?_ | refine blk_alloc ?_ _)); exact BK195.out⟩
                                        have n3_ : Aside0 (Below w.heap.size w ((((((w53.setCell ⟨gb195, 0, none⟩ (.int .i64 ((rd_T48 t189 x44_2).f0))).setCell ⟨gb195, 1, none⟩ (.bool ((rd_T48 t189 x44_2).f1))).setCell ⟨gb195, 2, none⟩ (.bool ((rd_T48 t189 x44_2).f2))).setCell ⟨gb195, 3, none⟩ (.int .i64 ((rd_T48 t189 x44_2).f3))).setCell ⟨gb195, 4, none⟩ (.bool ((rd_T48 t189 x44_2).f4))).setCell ⟨gb195, 5, none⟩ (.slice A194_5 ((rd_T48 t189 x44_2).f5).length c194_5))) := ⟨by repeat (first | (with_reducible first | exact HB.out | apply below_alloc | apply Go.Proofs.Ytnjbobboookfmaa.Ext.below_bytes | apply pw_below_drewN | apply below_drew1 | refine below_set ?_ GE195.out) | exact HB.out)⟩
                                        (try clear HO_42)
                                        (try clear HL194_5)
                                        (try clear BK195)
                                        (try clear HB)
                                        generalize ((((((w53.setCell ⟨gb195, 0, none⟩ (.int .i64 ((rd_T48 t189 x44_2).f0))).setCell ⟨gb195, 1, none⟩ (.bool ((rd_T48 t189 x44_2).f1))).setCell ⟨gb195, 2, none⟩ (.bool ((rd_T48 t189 x44_2).f2))).setCell ⟨gb195, 3, none⟩ (.int .i64 ((rd_T48 t189 x44_2).f3))).setCell ⟨gb195, 4, none⟩ (.bool ((rd_T48 t189 x44_2).f4))).setCell ⟨gb195, 5, none⟩ (.slice A194_5 ((rd_T48 t189 x44_2).f5).length c194_5)) = w55 at n0_ n1_ n2_ n3_ ⊢
                                        have HO_42 := n0_
                                        have HL194_5 := n1_
                                        have BK195 := n2_
                                        have HB := n3_
                                        clear n0_ n1_ n2_ n3_
                                        have n0_ := Aside0.mk (Kd.S_drew HO_42.out)
                                        have n1_ := Aside0.mk (Kd.R_drew HL194_5.out)
                                        have n2_ := Aside0.mk (blk_drew BK195.out)
                                        have n3_ := Aside0.mk (below_drew1 HB.out)
                                        clear HO_42
                                        clear HL194_5
                                        clear BK195
                                        clear HB
                                        have HO_42 := n0_
                                        have HL194_5 := n1_
                                        have BK195 := n2_
                                        have HB := n3_
                                        clear n0_ n1_ n2_ n3_
                                        refine start_ (n := 39) (S := fun w' => w'.cell? ⟨gb195, 0, none⟩ = some (.int .i64 ((rd_T48 t189 x44_2).f0)) ∧ w'.cell? ⟨gb195, 1, none⟩ = some (.bool ((rd_T48 t189 x44_2).f1)) ∧ w'.cell? ⟨gb195, 2, none⟩ = some (.bool ((rd_T48 t189 x44_2).f2)) ∧ w'.cell? ⟨gb195, 3, none⟩ = some (.int .i64 ((rd_T48 t189 x44_2).f3)) ∧ w'.cell? ⟨gb195, 4, none⟩ = some (.bool ((rd_T48 t189 x44_2).f4)) ∧ w'.cell? ⟨gb195, 5, none⟩ = some (.slice A194_5 ((rd_T48 t189 x44_2).f5).length c194_5)) (ds := []) #[false, false, false, false, false, false, false, false, false, false, false, false, false, false, false, false, false, false, false, false, false, false, false, false, false, false, false, false, false, false, false, false, false, false, false, false, false, false, false] (by kernel_rfl) rfl rfl ⟨(blk_cell BK195.out 0).trans rfl, (blk_cell BK195.out 1).trans rfl, (blk_cell BK195.out 2).trans rfl, (blk_cell BK195.out 3).trans rfl, (blk_cell BK195.out 4).trans rfl, (blk_cell BK195.out 5).trans rfl⟩ (fun hHeld => ?_); refine with_tabW laws_FnParams.tab16 laws_FnParams.bits16 (fun HT_ HW_ => ?_)
                                        (try (have c44b8f : (rd_T48 t189 x44_2).f2 = false := by have e_ : (decide ((wrap64 (x44_2 - 1)) < (l0.length : Int))) = false := (by first | assumption); have h_ := c44b0; rw [e_] at h_; simpa using h_))
                                        (try (have c46b8f : (rd_T48 t189 x44_2).f1 = false := by simpa using c46b0))
                                        (try (have c49b8f : (rd_T48 t189 x44_2).f4 = false := by simpa using c49b0))
                                        generalize w55.drew = w56 at HO_42 HL194_5 BK195 HB hHeld ⊢
                                        refine pure_ (i := 0) (N := some 72) (v := ?_) (a' := ?_) #[true, false, false, false, false, false, false, false, false, false, false, false, false, false, false, false, false, false, false, false, false, false, false, false, false, false, false, false, false, false, false, false, false, false, false, false, false, false, false] rfl rfl (any_of HT_.out (by kernel_rfl)) (fun _ _ _ h => h) (Or.inl ⟨by rfl, ?_⟩) ?_ ?_
                                        rotate_left
                                        · intro w'
                                          go_simp
                                          with_reducible rfl
                                        rotate_left
                                        · simp only [Act.put, List.setIfInBounds_toArray, List.set_cons_zero, List.set_cons_succ, i64_w, i32_w]
                                          rfl
                                        refine pure_ (i := 2) (N := some 74) (v := ?_) (a' := ?_) #[true, false, true, false, false, false, false, false, false, false, false, false, false, false, false, false, false, false, false, false, false, false, false, false, false, false, false, false, false, false, false, false, false, false, false, false, false, false, false] rfl rfl (any_of HT_.out (by kernel_rfl)) (fun _ _ _ h => h) (Or.inl ⟨by rfl, ?_⟩) ?_ ?_
                                        rotate_left
                                        · intro w'
                                          go_simp
                                          with_reducible rfl
                                        rotate_left
                                        · simp only [Act.put, List.setIfInBounds_toArray, List.set_cons_zero, List.set_cons_succ, i64_w, i32_w]
                                          rfl
                                        refine take_ (i := 1) (N := some 73) (v := ?_) (a' := ?_) #[true, true, true, false, false, false, false, false, false, false, false, false, false, false, false, false, false, false, false, false, false, false, false, false, false, false, false, false, false, false, false, false, false, false, false, false, false, false, false] rfl rfl (take_ofW HT_.out HW_.out (by kernel_rfl)) (fun _ _ _ h => h) (Or.inl ⟨by rfl, ?_⟩) hHeld ?_ ?_
                                        rotate_left
                                        · rintro w' ⟨s0, s1, s2, s3, s4, s5⟩
                                          go_simp
                                          with_reducible rfl
                                        rotate_left
                                        · simp only [Act.put, List.setIfInBounds_toArray, List.set_cons_zero, List.set_cons_succ, i64_w, i32_w]
                                          rfl
                                        refine pure_ (i := 3) (N := some 75) (v := ?_) (a' := ?_) #[true, true, true, true, false, false, false, false, false, false, false, false, false, false, false, false, false, false, false, false, false, false, false, false, false, false, false, false, false, false, false, false, false, false, false, false, false, false, false] rfl rfl (any_of HT_.out (by kernel_rfl)) (fun _ _ _ h => h) (Or.inl ⟨by rfl, ?_⟩) ?_ ?_
                                        rotate_left
                                        · intro w'
                                          go_simp
                                          with_reducible rfl
                                        rotate_left
                                        · simp only [Act.put, List.setIfInBounds_toArray, List.set_cons_zero, List.set_cons_succ, i64_w, i32_w]
                                          rfl
                                        refine pure_ (i := 4) (N := some 76) (v := ?_) (a' := ?_) #[true, true, true, true, true, false, false, false, false, false, false, false, false, false, false, false, false, false, false, false, false, false, false, false, false, false, false, false, false, false, false, false, false, false, false, false, false, false, false] rfl rfl (any_of HT_.out (by kernel_rfl)) (fun _ _ _ h => h) (Or.inl ⟨by rfl, ?_⟩) ?_ ?_
                                        rotate_left
                                        · intro w'
                                          go_simp
                                          with_reducible rfl
                                        rotate_left
                                        · simp only [Act.put, List.setIfInBounds_toArray, List.set_cons_zero, List.set_cons_succ, i64_w, i32_w]
                                          rfl
                                        refine pure_ (i := 5) (N := some 77) (v := ?_) (a' := ?_) #[true, true, true, true, true, true, false, false, false, false, false, false, false, false, false, false, false, false, false, false, false, false, false, false, false, false, false, false, false, false, false, false, false, false, false, false, false, false, false] rfl rfl (any_of HT_.out (by kernel_rfl)) (fun _ _ _ h => h) (Or.inl ⟨by rfl, ?_⟩) ?_ ?_
                                        rotate_left
                                        · intro w'
                                          go_simp
                                          with_reducible rfl
                                        rotate_left
                                        · simp only [Act.put, List.setIfInBounds_toArray, List.set_cons_zero, List.set_cons_succ, i64_w, i32_w]
                                          rfl
                                        refine pure_ (i := 7) (N := some 79) (v := ?_) (a' := ?_) #[true, true, true, true, true, true, false, true, false, false, false, false, false, false, false, false, false, false, false, false, false, false, false, false, false, false, false, false, false, false, false, false, false, false, false, false, false, false, false] rfl rfl (any_of HT_.out (by kernel_rfl)) (fun _ _ _ h => h) (Or.inl ⟨by rfl, ?_⟩) ?_ ?_
                                        rotate_left
                                        · intro w'
                                          go_simp
                                          with_reducible rfl
                                        rotate_left
                                        · simp only [Act.put, List.setIfInBounds_toArray, List.set_cons_zero, List.set_cons_succ, i64_w, i32_w]
                                          rfl
                                        refine take_ (i := 6) (N := some 78) (v := ?_) (a' := ?_) #[true, true, true, true, true, true, true, true, false, false, false, false, false, false, false, false, false, false, false, false, false, false, false, false, false, false, false, false, false, false, false, false, false, false, false, false, false, false, false] rfl rfl (take_ofW HT_.out HW_.out (by kernel_rfl)) (fun _ _ _ h => h) (Or.inl ⟨by rfl, ?_⟩) hHeld ?_ ?_
                                        rotate_left
                                        · rintro w' ⟨s0, s1, s2, s3, s4, s5⟩
                                          go_simp
                                          with_reducible rfl
                                        rotate_left
                                        · simp only [Act.put, List.setIfInBounds_toArray, List.set_cons_zero, List.set_cons_succ, i64_w, i32_w]
                                          rfl
                                        refine pure_ (i := 8) (N := some 80) (v := ?_) (a' := ?_) #[true, true, true, true, true, true, true, true, true, false, false, false, false, false, false, false, false, false, false, false, false, false, false, false, false, false, false, false, false, false, false, false, false, false, false, false, false, false, false] rfl rfl (any_of HT_.out (by kernel_rfl)) (fun _ _ _ h => h) (Or.inl ⟨by rfl, ?_⟩) ?_ ?_
                                        rotate_left
                                        · intro w'
                                          go_simp
                                          with_reducible rfl
                                        rotate_left
                                        · simp only [Act.put, List.setIfInBounds_toArray, List.set_cons_zero, List.set_cons_succ, i64_w, i32_w]
                                          rfl
                                        refine pure_ (i := 9) (N := some 81) (v := ?_) (a' := ?_) #[true, true, true, true, true, true, true, true, true, true, false, false, false, false, false, false, false, false, false, false, false, false, false, false, false, false, false, false, false, false, false, false, false, false, false, false, false, false, false] rfl rfl (any_of HT_.out (by kernel_rfl)) (fun _ _ _ h => h) (Or.inl ⟨by rfl, ?_⟩) ?_ ?_
                                        rotate_left
                                        · intro w'
                                          go_simp
                                          with_reducible rfl
                                        rotate_left
                                        · simp only [Act.put, List.setIfInBounds_toArray, List.set_cons_zero, List.set_cons_succ, i64_w, i32_w]
                                          rfl
                                        refine pure_ (i := 10) (N := some 82) (v := ?_) (a' := ?_) #[true, true, true, true, true, true, true, true, true, true, true, false, false, false, false, false, false, false, false, false, false, false, false, false, false, false, false, false, false, false, false, false, false, false, false, false, false, false, false] rfl rfl (any_of HT_.out (by kernel_rfl)) (fun _ _ _ h => h) (Or.inl ⟨by rfl, ?_⟩) ?_ ?_
                                        rotate_left
                                        · intro w'
                                          go_simp
                                          with_reducible rfl
                                        rotate_left
                                        · simp only [Act.put, List.setIfInBounds_toArray, List.set_cons_zero, List.set_cons_succ, i64_w, i32_w]
                                          rfl
                                        refine pure_ (i := 11) (N := some 83) (v := ?_) (a' := ?_) #[true, true, true, true, true, true, true, true, true, true, true, true, false, false, false, false, false, false, false, false, false, false, false, false, false, false, false, false, false, false, false, false, false, false, false, false, false, false, false] rfl rfl (any_of HT_.out (by kernel_rfl)) (fun _ _ _ h => h) (Or.inl ⟨by rfl, ?_⟩) ?_ ?_
                                        rotate_left
                                        · intro w'
                                          go_simp
                                          with_reducible rfl
                                        rotate_left
                                        · simp only [Act.put, List.setIfInBounds_toArray, List.set_cons_zero, List.set_cons_succ, i64_w, i32_w]
                                          rfl
                                        refine pure_ (i := 13) (N := some 85) (v := ?_) (a' := ?_) #[true, true, true, true, true, true, true, true, true, true, true, true, false, true, false, false, false, false, false, false, false, false, false, false, false, false, false, false, false, false, false, false, false, false, false, false, false, false, false] rfl rfl (any_of HT_.out (by kernel_rfl)) (fun _ _ _ h => h) (Or.inl ⟨by rfl, ?_⟩) ?_ ?_
                                        rotate_left
                                        · intro w'
                                          go_simp
                                          with_reducible rfl
                                        rotate_left
                                        · simp only [Act.put, List.setIfInBounds_toArray, List.set_cons_zero, List.set_cons_succ, i64_w, i32_w]
                                          rfl
                                        refine take_ (i := 12) (N := some 84) (v := ?_) (a' := ?_) #[true, true, true, true, true, true, true, true, true, true, true, true, true, true, false, false, false, false, false, false, false, false, false, false, false, false, false, false, false, false, false, false, false, false, false, false, false, false, false] rfl rfl (take_ofW HT_.out HW_.out (by kernel_rfl)) (fun _ _ _ h => h) (Or.inl ⟨by rfl, ?_⟩) hHeld ?_ ?_
                                        rotate_left
                                        · rintro w' ⟨s0, s1, s2, s3, s4, s5⟩
                                          go_simp
                                          with_reducible rfl
                                        rotate_left
                                        · simp only [Act.put, List.setIfInBounds_toArray, List.set_cons_zero, List.set_cons_succ, i64_w, i32_w]
                                          rfl
                                        refine pure_ (i := 14) (N := some 86) (v := ?_) (a' := ?_) #[true, true, true, true, true, true, true, true, true, true, true, true, true, true, true, false, false, false, false, false, false, false, false, false, false, false, false, false, false, false, false, false, false, false, false, false, false, false, false] rfl rfl (any_of HT_.out (by kernel_rfl)) (fun _ _ _ h => h) (Or.inl ⟨by rfl, ?_⟩) ?_ ?_
                                        rotate_left
                                        · intro w'
                                          go_simp
                                          with_reducible rfl
                                        rotate_left
                                        · simp only [Act.put, List.setIfInBounds_toArray, List.set_cons_zero, List.set_cons_succ, i64_w, i32_w]
                                          rfl
                                        refine pure_ (i := 15) (N := some 87) (v := ?_) (a' := ?_) #[true, true, true, true, true, true, true, true, true, true, true, true, true, true, true, true, false, false, false, false, false, false, false, false, false, false, false, false, false, false, false, false, false, false, false, false, false, false, false] rfl rfl (any_of HT_.out (by kernel_rfl)) (fun _ _ _ h => h) (Or.inl ⟨by rfl, ?_⟩) ?_ ?_
                                        rotate_left
                                        · intro w'
                                          go_simp
                                          with_reducible rfl
                                        rotate_left
                                        · simp only [Act.put, List.setIfInBounds_toArray, List.set_cons_zero, List.set_cons_succ, i64_w, i32_w]
                                          rfl
                                        refine pure_ (i := 16) (N := some 88) (v := ?_) (a' := ?_) #[true, true, true, true, true, true, true, true, true, true, true, true, true, true, true, true, true, false, false, false, false, false, false, false, false, false, false, false, false, false, false, false, false, false, false, false, false, false, false] rfl rfl (any_of HT_.out (by kernel_rfl)) (fun _ _ _ h => h) (Or.inl ⟨by rfl, ?_⟩) ?_ ?_
                                        rotate_left
                                        · intro w'
                                          go_simp
                                          with_reducible rfl
                                        rotate_left
                                        · simp only [Act.put, List.setIfInBounds_toArray, List.set_cons_zero, List.set_cons_succ, i64_w, i32_w]
                                          rfl
                                        refine pure_ (i := 17) (N := some 89) (v := ?_) (a' := ?_) #[true, true, true, true, true, true, true, true, true, true, true, true, true, true, true, true, true, true, false, false, false, false, false, false, false, false, false, false, false, false, false, false, false, false, false, false, false, false, false] rfl rfl (any_of HT_.out (by kernel_rfl)) (fun _ _ _ h => h) (Or.inl ⟨by rfl, ?_⟩) ?_ ?_
                                        rotate_left
                                        · intro w'
                                          go_simp
                                          with_reducible rfl
                                        rotate_left
                                        · simp only [Act.put, List.setIfInBounds_toArray, List.set_cons_zero, List.set_cons_succ, i64_w, i32_w]
                                          rfl
                                        refine pure_ (i := 19) (N := some 91) (v := ?_) (a' := ?_) #[true, true, true, true, true, true, true, true, true, true, true, true, true, true, true, true, true, true, false, true, false, false, false, false, false, false, false, false, false, false, false, false, false, false, false, false, false, false, false] rfl rfl (any_of HT_.out (by kernel_rfl)) (fun _ _ _ h => h) (Or.inl ⟨by rfl, ?_⟩) ?_ ?_
                                        rotate_left
                                        · intro w'
                                          go_simp
                                          with_reducible rfl
                                        rotate_left
                                        · simp only [Act.put, List.setIfInBounds_toArray, List.set_cons_zero, List.set_cons_succ, i64_w, i32_w]
                                          rfl
                                        refine pure_ (i := 20) (N := some 92) (v := ?_) (a' := ?_) #[true, true, true, true, true, true, true, true, true, true, true, true, true, true, true, true, true, true, false, true, true, false, false, false, false, false, false, false, false, false, false, false, false, false, false, false, false, false, false] rfl rfl (any_of HT_.out (by kernel_rfl)) (fun _ _ _ h => h) (Or.inl ⟨by rfl, ?_⟩) ?_ ?_
                                        rotate_left
                                        · intro w'
                                          go_simp
                                          with_reducible rfl
                                        rotate_left
                                        · simp only [Act.put, List.setIfInBounds_toArray, List.set_cons_zero, List.set_cons_succ, i64_w, i32_w]
                                          rfl
                                        refine take_ (i := 18) (N := some 90) (v := ?_) (a' := ?_) #[true, true, true, true, true, true, true, true, true, true, true, true, true, true, true, true, true, true, true, true, true, false, false, false, false, false, false, false, false, false, false, false, false, false, false, false, false, false, false] rfl rfl (take_ofW HT_.out HW_.out (by kernel_rfl)) (fun _ _ _ h => h) (Or.inl ⟨by rfl, ?_⟩) hHeld ?_ ?_
                                        rotate_left
                                        · rintro w' ⟨s0, s1, s2, s3, s4, s5⟩
                                          go_simp
                                          with_reducible rfl
                                        rotate_left
                                        · simp only [Act.put, List.setIfInBounds_toArray, List.set_cons_zero, List.set_cons_succ, i64_w, i32_w]
                                          rfl
                                        refine one_ (i := 21) (N := some 93) #[true, true, true, true, true, true, true, true, true, true, true, true, true, true, true, true, true, true, true, true, true, true, false, false, false, false, false, false, false, false, false, false, false, false, false, false, false, false, false] rfl rfl (one_of HT_.out (by kernel_rfl)) (by decide) (fun K hK => ?_)
                                        refine goes_ Try.func14 (by kernel_rfl) rfl #[.slice A0 l0.length c0, .int .i64 (wrap64 (x44_2 - 1))] (by rfl) rfl rfl (by (try simp only [List.map_toArray, List.map_cons, List.map_nil]); first | done | rfl | (simp only [List.length_drop, List.length_take]; rfl) | (simp [Act.eval, *]; done) | (simp [Act.eval, *]; unfold wrap64; omega)) ?_
                                        with_reducible refine (spec_PlainAt.calls _ _ l0 (wrap64 (x44_2 - 1)) t205 _ ?side1 ?side2 A47.out).mono ?_
                                        (case side1 => repeat (first | exact (Kd.C_below HR0.out HB.out) | (with_reducible refine Kd.C_alloc ?_ _) | (with_reducible refine Kd.C_drewN ?_ _) | (with_reducible refine Kd.C_drew ?_)))
                                        (case side2 => exact HC0.out)
                                        rintro e w' ⟨rfl, ⟨nd, rfl⟩⟩
                                        refine ⟨_, rfl, ?_⟩
                                        refine hK.out _ _ ⟨(blk_cell BK195.out 0).trans rfl, (blk_cell BK195.out 1).trans rfl, (blk_cell BK195.out 2).trans rfl, (blk_cell BK195.out 3).trans rfl, (blk_cell BK195.out 4).trans rfl, (blk_cell BK195.out 5).trans rfl⟩ (fun hHeld => ?_)
                                        clear hK K
                                        refine norm_ (a' := ?_) ?_ ?_
                                        rotate_left
                                        · show Act.put _ (some 93) _ = _
                                          simp only [Act.put, List.setIfInBounds_toArray, List.set_cons_zero, List.set_cons_succ, i64_w, i32_w]
                                          rfl
                                        refine pure_ (i := 22) (N := some 94) (v := ?_) (a' := ?_) #[true, true, true, true, true, true, true, true, true, true, true, true, true, true, true, true, true, true, true, true, true, true, true, false, false, false, false, false, false, false, false, false, false, false, false, false, false, false, false] rfl rfl (any_of HT_.out (by kernel_rfl)) (fun _ _ _ h => h) (Or.inl ⟨by rfl, ?_⟩) ?_ ?_
                                        rotate_left
                                        · intro w'
                                          go_simp
                                          with_reducible rfl
                                        rotate_left
                                        · simp only [Act.put, List.setIfInBounds_toArray, List.set_cons_zero, List.set_cons_succ, i64_w, i32_w]
                                          rfl
                                        refine pure_ (i := 23) (N := some 95) (v := ?_) (a' := ?_) #[true, true, true, true, true, true, true, true, true, true, true, true, true, true, true, true, true, true, true, true, true, true, true, true, false, false, false, false, false, false, false, false, false, false, false, false, false, false, false] rfl rfl (any_of HT_.out (by kernel_rfl)) (fun _ _ _ h => h) (Or.inl ⟨by rfl, ?_⟩) ?_ ?_
                                        rotate_left
                                        · intro w'
                                          go_simp
                                          with_reducible rfl
                                        rotate_left
                                        · simp only [Act.put, List.setIfInBounds_toArray, List.set_cons_zero, List.set_cons_succ, i64_w, i32_w]
                                          rfl
                                        refine pure_ (i := 24) (N := some 96) (v := ?_) (a' := ?_) #[true, true, true, true, true, true, true, true, true, true, true, true, true, true, true, true, true, true, true, true, true, true, true, true, true, false, false, false, false, false, false, false, false, false, false, false, false, false, false] rfl rfl (any_of HT_.out (by kernel_rfl)) (fun _ _ _ h => h) (Or.inl ⟨by rfl, ?_⟩) ?_ ?_
                                        rotate_left
                                        · intro w'
                                          go_simp
                                          with_reducible rfl
                                        rotate_left
                                        · simp only [Act.put, List.setIfInBounds_toArray, List.set_cons_zero, List.set_cons_succ, i64_w, i32_w]
                                          rfl
                                        refine pure_ (i := 25) (N := some 97) (v := ?_) (a' := ?_) #[true, true, true, true, true, true, true, true, true, true, true, true, true, true, true, true, true, true, true, true, true, true, true, true, true, true, false, false, false, false, false, false, false, false, false, false, false, false, false] rfl rfl (any_of HT_.out (by kernel_rfl)) (fun _ _ _ h => h) (Or.inl ⟨by rfl, ?_⟩) ?_ ?_
                                        rotate_left
                                        · intro w'
                                          go_simp
                                          with_reducible rfl
                                        rotate_left
                                        · simp only [Act.put, List.setIfInBounds_toArray, List.set_cons_zero, List.set_cons_succ, i64_w, i32_w]
                                          rfl
                                        refine pure_ (i := 27) (N := some 99) (v := ?_) (a' := ?_) #[true, true, true, true, true, true, true, true, true, true, true, true, true, true, true, true, true, true, true, true, true, true, true, true, true, true, false, true, false, false, false, false, false, false, false, false, false, false, false] rfl rfl (any_of HT_.out (by kernel_rfl)) (fun _ _ _ h => h) (Or.inl ⟨by rfl, ?_⟩) ?_ ?_
                                        rotate_left
                                        · intro w'
                                          go_simp
                                          with_reducible rfl
                                        rotate_left
                                        · simp only [Act.put, List.setIfInBounds_toArray, List.set_cons_zero, List.set_cons_succ, i64_w, i32_w]
                                          rfl
                                        refine take_ (i := 26) (N := some 98) (v := ?_) (a' := ?_) #[true, true, true, true, true, true, true, true, true, true, true, true, true, true, true, true, true, true, true, true, true, true, true, true, true, true, true, true, false, false, false, false, false, false, false, false, false, false, false] rfl rfl (take_ofW HT_.out HW_.out (by kernel_rfl)) (fun _ _ _ h => h) (Or.inl ⟨by rfl, ?_⟩) hHeld ?_ ?_
                                        rotate_left
                                        · rintro w' ⟨s0, s1, s2, s3, s4, s5⟩
                                          go_simp
                                          with_reducible rfl
                                        rotate_left
                                        · simp only [Act.put, List.setIfInBounds_toArray, List.set_cons_zero, List.set_cons_succ, i64_w, i32_w]
                                          rfl
                                        refine pure_ (i := 28) (N := some 100) (v := ?_) (a' := ?_) #[true, true, true, true, true, true, true, true, true, true, true, true, true, true, true, true, true, true, true, true, true, true, true, true, true, true, true, true, true, false, false, false, false, false, false, false, false, false, false] rfl rfl (any_of HT_.out (by kernel_rfl)) (fun _ _ _ h => h) (Or.inl ⟨by rfl, ?_⟩) ?_ ?_
                                        rotate_left
                                        · intro w'
                                          go_simp
                                          with_reducible rfl
                                        rotate_left
                                        · simp only [Act.put, List.setIfInBounds_toArray, List.set_cons_zero, List.set_cons_succ, i64_w, i32_w]
                                          rfl
                                        refine pure_ (i := 29) (N := some 101) (v := ?_) (a' := ?_) #[true, true, true, true, true, true, true, true, true, true, true, true, true, true, true, true, true, true, true, true, true, true, true, true, true, true, true, true, true, true, false, false, false, false, false, false, false, false, false] rfl rfl (any_of HT_.out (by kernel_rfl)) (fun _ _ _ h => h) (Or.inl ⟨by rfl, ?_⟩) ?_ ?_
                                        rotate_left
                                        · intro w'
                                          go_simp
                                          with_reducible rfl
                                        rotate_left
                                        · simp only [Act.put, List.setIfInBounds_toArray, List.set_cons_zero, List.set_cons_succ, i64_w, i32_w]
                                          rfl
                                        refine pure_ (i := 30) (N := some 102) (v := ?_) (a' := ?_) #[true, true, true, true, true, true, true, true, true, true, true, true, true, true, true, true, true, true, true, true, true, true, true, true, true, true, true, true, true, true, true, false, false, false, false, false, false, false, false] rfl rfl (any_of HT_.out (by kernel_rfl)) (fun _ _ _ h => h) (Or.inl ⟨by rfl, ?_⟩) ?_ ?_
                                        rotate_left
                                        · intro w'
                                          go_simp
                                          with_reducible rfl
                                        rotate_left
                                        · simp only [Act.put, List.setIfInBounds_toArray, List.set_cons_zero, List.set_cons_succ, i64_w, i32_w]
                                          rfl
                                        refine pure_ (i := 31) (N := some 103) (v := ?_) (a' := ?_) #[true, true, true, true, true, true, true, true, true, true, true, true, true, true, true, true, true, true, true, true, true, true, true, true, true, true, true, true, true, true, true, true, false, false, false, false, false, false, false] rfl rfl (any_of HT_.out (by kernel_rfl)) (fun _ _ _ h => h) (Or.inl ⟨by rfl, ?_⟩) ?_ ?_
                                        rotate_left
                                        · intro w'
                                          go_simp
                                          with_reducible rfl
                                        rotate_left
                                        · simp only [Act.put, List.setIfInBounds_toArray, List.set_cons_zero, List.set_cons_succ, i64_w, i32_w]
                                          rfl
                                        refine pure_ (i := 33) (N := some 105) (v := ?_) (a' := ?_) #[true, true, true, true, true, true, true, true, true, true, true, true, true, true, true, true, true, true, true, true, true, true, true, true, true, true, true, true, true, true, true, true, false, true, false, false, false, false, false] rfl rfl (any_of HT_.out (by kernel_rfl)) (fun _ _ _ h => h) (Or.inl ⟨by rfl, ?_⟩) ?_ ?_
                                        rotate_left
                                        · intro w'
                                          go_simp
                                          with_reducible rfl
                                        rotate_left
                                        · simp only [Act.put, List.setIfInBounds_toArray, List.set_cons_zero, List.set_cons_succ, i64_w, i32_w]
                                          rfl
                                        refine pure_ (i := 34) (N := some 106) (v := ?_) (a' := ?_) #[true, true, true, true, true, true, true, true, true, true, true, true, true, true, true, true, true, true, true, true, true, true, true, true, true, true, true, true, true, true, true, true, false, true, true, false, false, false, false] rfl rfl (any_of HT_.out (by kernel_rfl)) (fun _ _ _ h => h) (Or.inl ⟨by rfl, ?_⟩) ?_ ?_
                                        rotate_left
                                        · intro w'
                                          go_simp
                                          with_reducible rfl
                                        rotate_left
                                        · simp only [Act.put, List.setIfInBounds_toArray, List.set_cons_zero, List.set_cons_succ, i64_w, i32_w]
                                          rfl
                                        refine take_ (i := 32) (N := some 104) (v := ?_) (a' := ?_) #[true, true, true, true, true, true, true, true, true, true, true, true, true, true, true, true, true, true, true, true, true, true, true, true, true, true, true, true, true, true, true, true, true, true, true, false, false, false, false] rfl rfl (take_ofW HT_.out HW_.out (by kernel_rfl)) (fun _ _ _ h => h) (Or.inl ⟨by rfl, ?_⟩) hHeld ?_ ?_
                                        rotate_left
                                        · rintro w' ⟨s0, s1, s2, s3, s4, s5⟩
                                          go_simp
                                          with_reducible rfl
                                        rotate_left
                                        · simp only [Act.put, List.setIfInBounds_toArray, List.set_cons_zero, List.set_cons_succ, i64_w, i32_w]
                                          rfl
                                        refine one_ (i := 35) (N := some 107) #[true, true, true, true, true, true, true, true, true, true, true, true, true, true, true, true, true, true, true, true, true, true, true, true, true, true, true, true, true, true, true, true, true, true, true, true, false, false, false] rfl rfl (one_of HT_.out (by kernel_rfl)) (by decide) (fun K hK => ?_)
                                        refine goes_ Try.func16 (by kernel_rfl) rfl #[.slice A0 l0.length c0, .int .i64 (wrap64 (x44_2 - 1))] (by rfl) rfl rfl (by (try simp only [List.map_toArray, List.map_cons, List.map_nil]); first | done | rfl | (simp only [List.length_drop, List.length_take]; rfl) | (simp [Act.eval, *]; done) | (simp [Act.eval, *]; unfold wrap64; omega)) ?_
                                        with_reducible refine (spec_Subs.calls k2 _ _ l0 (wrap64 (x44_2 - 1)) t206 _ ?side1 ?side2 A50.out).mono ?_
                                        (case side1 => repeat (first | exact (Kd.C_below HR0.out (by repeat (first | (with_reducible first | exact HB.out | apply below_alloc | apply Go.Proofs.Ytnjbobboookfmaa.Ext.below_bytes | apply pw_below_drewN | apply below_drew1 | refine below_set ?_ GE195.out) | exact HB.out))) | (with_reducible refine Kd.C_alloc ?_ _) | (with_reducible refine Kd.C_drewN ?_ _) | (with_reducible refine Kd.C_drew ?_)))
                                        (case side2 => exact HC0.out)
                                        rintro e w57 ⟨v207, rfl, ho0, hb⟩
                                        refine ⟨_, rfl, ?_⟩
                                        have n0_ := Aside0.mk (Kd.S_elder' (by (with_reducible repeat (first | apply Kd.S_alloc | apply Go.Proofs.Ytnjbobboookfmaa.Ext.R_bytes | apply Kd.S_drewN | apply Kd.S_drew)); exact HO_42.out) (Kd.R_base ho0) hb)
                                        have n1_ := Aside0.mk (Kd.R_elder' (by (with_reducible repeat (first | apply Kd.R_alloc | apply Go.Proofs.Ytnjbobboookfmaa.Ext.R_bytes | apply Kd.R_drewN | apply Kd.R_drew)); exact HL194_5.out) (Kd.R_base ho0) hb)
                                        have n2_ := Aside0.mk (Kd.R_lower (Kd.R_new' ho0 (Kd.R_lt (by (with_reducible repeat (first | apply Kd.R_alloc | apply Go.Proofs.Ytnjbobboookfmaa.Ext.R_bytes | apply Kd.R_drewN | apply Kd.R_drew)); exact HL194_5.out))) (below_size (by repeat (first | (with_reducible first | exact HB.out | apply below_alloc | apply Go.Proofs.Ytnjbobboookfmaa.Ext.below_bytes | apply pw_below_drewN | apply below_drew1 | refine below_set ?_ GE195.out) | exact HB.out))))
                                        have n3_ := Aside0.mk (blk_below (g := gb195) (o := .cells #[.int .i64 ((rd_T48 t189 x44_2).f0), .bool ((rd_T48 t189 x44_2).f1), .bool ((rd_T48 t189 x44_2).f2), .int .i64 ((rd_T48 t189 x44_2).f3), .bool ((rd_T48 t189 x44_2).f4), .slice A194_5 ((rd_T48 t189 x44_2).f5).length c194_5] 48 (0, 0)) (by (with_reducible repeat (first | refine blk_drewN ?_ _ | refine blk_drew ?_ | refine blk_alloc ?_ _)); exact BK195.out) hb)
                                        have n4_ := Aside0.mk (below_step (by repeat (first | (with_reducible first | exact HB.out | apply below_alloc | apply Go.Proofs.Ytnjbobboookfmaa.Ext.below_bytes | apply pw_below_drewN | apply below_drew1 | refine below_set ?_ GE195.out) | exact HB.out)) hb)
                                        clear HO_42
                                        clear HL194_5
                                        clear BK195
                                        clear HB
                                        have HO_42 := n0_
                                        have HL194_5 := n1_
                                        have HO208 := n2_
                                        have BK195 := n3_
                                        have HB := n4_
                                        clear n0_ n1_ n2_ n3_ n4_
                                        (try clear hb)
                                        (try clear hb2)
                                        (try clear hk)
                                        (try clear hi)
                                        (try clear ho0)
                                        obtain ⟨Ao58, co58, eo58⟩ := Kd.R_slice HO208.out
                                        (first | subst eo58 | (injection eo58 with f1_ f2_ f3_; have f4_ := f1_.symm; have f5_ := f3_.symm; clear f1_ f2_ f3_; subst f4_; subst f5_))
                                        refine hK.out _ _ ⟨(blk_cell BK195.out 0).trans rfl, (blk_cell BK195.out 1).trans rfl, (blk_cell BK195.out 2).trans rfl, (blk_cell BK195.out 3).trans rfl, (blk_cell BK195.out 4).trans rfl, (blk_cell BK195.out 5).trans rfl⟩ (fun hHeld => ?_)
                                        clear hK K
                                        refine norm_ (a' := ?_) ?_ ?_
                                        rotate_left
                                        · show Act.put _ (some 107) _ = _
                                          simp only [Act.put, List.setIfInBounds_toArray, List.set_cons_zero, List.set_cons_succ, i64_w, i32_w]
                                          rfl
                                        refine one_ (i := 36) (N := some 108) #[true, true, true, true, true, true, true, true, true, true, true, true, true, true, true, true, true, true, true, true, true, true, true, true, true, true, true, true, true, true, true, true, true, true, true, true, true, false, false] rfl rfl (one_of HT_.out (by kernel_rfl)) (by decide) (fun K hK => ?_)
                                        refine goes_ Try.func15 (by kernel_rfl) rfl #[.slice A194_5 ((rd_T48 t189 x44_2).f5).length c194_5, .slice Ao58 t206.length co58] (by rfl) rfl rfl (by (try simp only [List.map_toArray, List.map_cons, List.map_nil]); first | done | rfl | (simp only [List.length_drop, List.length_take]; rfl) | (simp [Act.eval, *]; done) | (simp [Act.eval, *]; unfold wrap64; omega)) ?_
                                        with_reducible refine (spec_SameInts.calls k2 _ _ ((rd_T48 t189 x44_2).f5) _ _ t206 true _ ?side1 ?side2 ?side3 ?side4 A51.out).mono ?_
                                        (case side1 => repeat (first | exact ((Kd.R_reads' (by (with_reducible repeat (first | apply Kd.R_alloc | apply Go.Proofs.Ytnjbobboookfmaa.Ext.R_bytes | apply Kd.R_drewN | apply Kd.R_drew)); exact HL194_5.out)).2.2) | (with_reducible refine Kd.C_alloc ?_ _) | (with_reducible refine Kd.C_drewN ?_ _) | (with_reducible refine Kd.C_drew ?_)))
                                        (case side2 => exact HC194_5.out)
                                        (case side3 => repeat (first | exact (Kd.R_reads' HO208.out).2.2 | (with_reducible refine Kd.C_alloc ?_ _) | (with_reducible refine Kd.C_drewN ?_ _) | (with_reducible refine Kd.C_drew ?_)))
                                        (case side4 => exact (Kd.R_reads' HO208.out).2.1)
                                        rintro e w' ⟨rfl, ⟨nd, rfl⟩⟩
                                        refine ⟨_, rfl, ?_⟩
                                        refine hK.out _ _ ⟨(blk_cell BK195.out 0).trans rfl, (blk_cell BK195.out 1).trans rfl, (blk_cell BK195.out 2).trans rfl, (blk_cell BK195.out 3).trans rfl, (blk_cell BK195.out 4).trans rfl, (blk_cell BK195.out 5).trans rfl⟩ (fun hHeld => ?_)
                                        clear hK K
                                        refine norm_ (a' := ?_) ?_ ?_
                                        rotate_left
                                        · show Act.put _ (some 108) _ = _
                                          simp only [Act.put, List.setIfInBounds_toArray, List.set_cons_zero, List.set_cons_succ, i64_w, i32_w]
                                          rfl
                                        refine pure_ (i := 37) (N := some 109) (v := ?_) (a' := ?_) #[true, true, true, true, true, true, true, true, true, true, true, true, true, true, true, true, true, true, true, true, true, true, true, true, true, true, true, true, true, true, true, true, true, true, true, true, true, true, false] rfl rfl (any_of HT_.out (by kernel_rfl)) (fun _ _ _ h => h) (Or.inl ⟨by rfl, ?_⟩) ?_ ?_
                                        rotate_left
                                        · intro w'
                                          go_simp
                                          with_reducible rfl
                                        rotate_left
                                        · simp only [Act.put, List.setIfInBounds_toArray, List.set_cons_zero, List.set_cons_succ, i64_w, i32_w]
                                          rfl
                                        refine pure_ (i := 38) (N := some 110) (v := ?_) (a' := ?_) #[true, true, true, true, true, true, true, true, true, true, true, true, true, true, true, true, true, true, true, true, true, true, true, true, true, true, true, true, true, true, true, true, true, true, true, true, true, true, true] rfl rfl (any_of HT_.out (by kernel_rfl)) (fun _ _ _ h => h) (Or.inl ⟨by rfl, ?_⟩) ?_ ?_
                                        rotate_left
                                        · intro w'
                                          go_simp
                                          with_reducible rfl
                                        rotate_left
                                        · simp only [Act.put, List.setIfInBounds_toArray, List.set_cons_zero, List.set_cons_succ, i64_w, i32_w]
                                          rfl
                                        refine done_ (done_of HT_.out (by kernel_rfl)) ?_
                                        try go_wp2
                                        go_roundg k2
                                        case measure => have := HJ6.out; have := HK2.out; omega
                                        case rel => exact ⟨(wrap64 (x44_2 + 1)), (by first | rfl | (simp; done) | (simp [*]; done)), H', ⟨by have := HJ6.out; have := HK2.out; omega⟩, ⟨by (with_reducible repeat (first | apply Kd.S_alloc | apply Go.Proofs.Ytnjbobboookfmaa.Ext.R_bytes | apply Kd.S_drewN | apply Kd.S_drew)); exact Kd.S_mono HO_42.out (fun _ hk => trivial)⟩, ⟨by repeat (first | (with_reducible first | exact HB.out | apply below_alloc | apply Go.Proofs.Ytnjbobboookfmaa.Ext.below_bytes | apply pw_below_drewN | apply below_drew1 | refine below_set ?_ GE195.out) | exact HB.out)⟩⟩
                                      · replace c52 := Bool.eq_false_iff.mpr c52
                                        subst c52
                                        have H1 : (none) = some r := by rw [if_neg (show ¬ (false = true) by decide)] at H; exact H
                                        clear H
                                        have H := H1
                                        clear H1
                                        exact absurd H (by simp)
                                  · rw [if_neg c48] at H
                                    exact absurd H (by simp)
                              · rw [if_neg c45] at H
                                exact absurd H (by simp)
                        · rw [if_neg c22] at H
                          have c22b0 : decide (0 ≤ (wrap64 (x44_2 - 1))) = false := decide_eq_false c22
                          clear c22
                          by_cases c59 : (((rd_T48 t189 x44_2).f2) != false) = true
                          · rw [if_pos c59] at H
                            exact absurd H (by simp)
                          · rw [if_neg c59] at H
                            have c59b0 : (((rd_T48 t189 x44_2).f2) != false) = false := by simpa using c59
                            (try (have c59b1 : decide (((rd_T48 t189 x44_2).f2) = false) = true := by simpa using c59))
                            (try (have c59b2 : (((rd_T48 t189 x44_2).f2) == false) = true := by simpa using c59))
                            clear c59
                            by_cases c60 : ((rd_T48 t189 x44_2).f0) = a1
                            · rw [if_pos c60] at H
                              have c60b0 : (((rd_T48 t189 x44_2).f0) == a1) = true := beq_iff_eq.mpr c60
                              have c60b1 : (((rd_T48 t189 x44_2).f0) != a1) = false := bne_eq_false_iff_eq.mpr c60
                              clear c60
                              by_cases c61 : (((rd_T48 t189 x44_2).f1) != false) = true
                              · rw [if_pos c61] at H
                                exact absurd H (by simp)
                              · rw [if_neg c61] at H
                                have c61b0 : (((rd_T48 t189 x44_2).f1) != false) = false := by simpa using c61
                                (try (have c61b1 : decide (((rd_T48 t189 x44_2).f1) = false) = true := by simpa using c61))
                                (try (have c61b2 : (((rd_T48 t189 x44_2).f1) == false) = true := by simpa using c61))
                                clear c61
                                replace H := Option.bind_eq_some_iff.mp H
                                obtain ⟨t210, A620, H⟩ := H
                                replace H : (if ((rd_T48 t189 x44_2).f3) = t210 then (if (((rd_T48 t189 x44_2).f4) != false) = true then (none) else ((spec_Subs.f k2 l0 (wrap64 (x44_2 - 1))).bind fun t211 => ((spec_SameInts.f k2 ((rd_T48 t189 x44_2).f5) t211).bind fun t214 => (if t214 = true then (laws_FnParams.l0 k2 l0 a1 t189 (t189.length : Int) (wrap64 (x44_2 + 1))) else (none))))) else (none)) = some r := H
                                have A62 := Aside0.mk A620
                                clear A620
                                by_cases c63 : ((rd_T48 t189 x44_2).f3) = t210
                                · rw [if_pos c63] at H
                                  have c63b0 : (((rd_T48 t189 x44_2).f3) == t210) = true := beq_iff_eq.mpr c63
                                  have c63b1 : (((rd_T48 t189 x44_2).f3) != t210) = false := bne_eq_false_iff_eq.mpr c63
                                  clear c63
                                  by_cases c64 : (((rd_T48 t189 x44_2).f4) != false) = true
                                  · rw [if_pos c64] at H
                                    exact absurd H (by simp)
                                  · rw [if_neg c64] at H
                                    have c64b0 : (((rd_T48 t189 x44_2).f4) != false) = false := by simpa using c64
                                    (try (have c64b1 : decide (((rd_T48 t189 x44_2).f4) = false) = true := by simpa using c64))
                                    (try (have c64b2 : (((rd_T48 t189 x44_2).f4) == false) = true := by simpa using c64))
                                    clear c64
                                    replace H := Option.bind_eq_some_iff.mp H
                                    obtain ⟨t211, A650, H⟩ := H
                                    replace H : ((spec_SameInts.f k2 ((rd_T48 t189 x44_2).f5) t211).bind fun t214 => (if t214 = true then (laws_FnParams.l0 k2 l0 a1 t189 (t189.length : Int) (wrap64 (x44_2 + 1))) else (none))) = some r := H
                                    have A65 := Aside0.mk A650
                                    clear A650
                                    replace H := Option.bind_eq_some_iff.mp H
                                    obtain ⟨t214, A660, H⟩ := H
                                    replace H : (if t214 = true then (laws_FnParams.l0 k2 l0 a1 t189 (t189.length : Int) (wrap64 (x44_2 + 1))) else (none)) = some r := H
                                    have A66 := Aside0.mk A660
                                    clear A660
                                    by_cases c67 : t214 = true
                                    · subst c67
                                      have H1 : (laws_FnParams.l0 k2 l0 a1 t189 (t189.length : Int) (wrap64 (x44_2 + 1))) = some r := by rw [if_pos rfl] at H; exact H
                                      clear H
                                      have H := H1
                                      clear H1
                                      have H' := Aside0.mk H
                                      clear H
                                      have p194 : 0 ≤ (x44_2 : Int) := of_decide_eq_true (by first | (with_reducible assumption) | assumption)
                                      have q194 : x44_2 < (t189.length : Int) := of_decide_eq_true (by first | (with_reducible assumption) | assumption)
                                      obtain ⟨ad194, A194_5, c194_5, e194, hx194_0, hx194_1, hx194_2, hx194_3, hx194_4, hx194_5, hl194_5, hi194_5⟩ := at_T48 (Kd.S_reads' HO_42.out).2.2 x44_2 p194 q194
                                      cases e194
                                      obtain ⟨ce194, hce194, hMe194, hcc194⟩ := Kd.S_get HO_42.out z48 x44_2 p194 (by first | exact q194 | exact of_decide_eq_true (by first | (with_reducible assumption) | assumption) | (have e_ := (Kd.S_reads' HO_42.out).1; omega))
                                      obtain ⟨ve194_5, rfl, ge194_5⟩ := k48_openM hMe194
                                      have hv194_5 := hcc194 5 _ rfl
                                      rw [add_field _ _ 5 (by omega)] at hv194_5
                                      replace hv194_5 := Option.some.inj (hv194_5.symm.trans hx194_5)
                                      rw [hv194_5] at ge194_5
                                      have HL194_5 := Aside0.mk (show Kd.R (Kd.int .i64) 2 _ _ _ _ ((rd_T48 t189 x44_2).f5) from ge194_5)
                                      clear hv194_5 ge194_5
                                      clear hcc194 hce194
                                      have HR194_5 := Aside0.mk hi194_5
                                      have HC194_5 := Aside0.mk hl194_5
                                      clear hi194_5 hl194_5
                                      replace p194 := eq_true p194
                                      replace q194 := eq_true q194
                                      try go_wp2_with (first | ((with_reducible refine gate_dst (N := 8) rfl ?_); (try (refine gate_guard (by rfl) ?_; dsimp only)); refine box_event ?hg (N := 8) ?hd (cs := #[.int .i64 0, .bool false, .bool false, .int .i64 0, .bool false, .slice none 0 0]) (t := 48) ?hr ?_; (case hd => rfl); (case hg => rfl); (case hr => first | (go_simp; done) | (go_simp; rfl)); intro gb195 hg w68 hbox hb; have n0_ := Aside0.mk (Kd.S_below (Kd.S_elderB (by (with_reducible repeat (first | apply Kd.S_alloc | apply Go.Proofs.Ytnjbobboookfmaa.Ext.R_bytes | apply Kd.S_drewN | apply Kd.S_drew)); exact HO_42.out) gb195 (Nat.le_of_eq hg.symm)) hb); have n1_ := Aside0.mk (Kd.R_below (by (with_reducible repeat (first | apply Kd.R_alloc | apply Go.Proofs.Ytnjbobboookfmaa.Ext.R_bytes | apply Kd.R_drewN | apply Kd.R_drew)); exact HL194_5.out) hb); have n2_ := Aside0.mk (Kd.C_below (by repeat (first | (with_reducible exact HR194_5.out) | (with_reducible refine Kd.C_alloc ?_ _) | (with_reducible refine Kd.C_drewN ?_ _) | (with_reducible refine Kd.C_drew ?_) | exact HR194_5.out)) hb); have n3_ := Aside0.mk (below_step (by repeat (first | (with_reducible first | exact HB.out | apply below_alloc | apply Go.Proofs.Ytnjbobboookfmaa.Ext.below_bytes | apply pw_below_drewN | apply below_drew1) | exact HB.out)) hb); have n4_ := Aside0.mk (hbox); have n5_ := Aside0.mk ((by rw [hg]; exact (below_size (by repeat (first | (with_reducible first | exact HB.out | apply below_alloc | apply Go.Proofs.Ytnjbobboookfmaa.Ext.below_bytes | apply pw_below_drewN | apply below_drew1) | exact HB.out))) : w.heap.size ≤ gb195)); have n6_ := Aside0.mk ((by rw [hg]; exact (below_size (by repeat (first | (with_reducible first | exact HB.out | apply below_alloc | apply Go.Proofs.Ytnjbobboookfmaa.Ext.below_bytes | apply pw_below_drewN | apply below_drew1) | exact HB.out))) : w.heap.size ≤ gb195)); clear HO_42; clear HL194_5; clear HR194_5; clear HB; have HO_42 := n0_; have HL194_5 := n1_; have HR194_5 := n2_; have HB := n3_; have BK195 := n4_; have GW195 := n5_; have GE195 := n6_; clear n0_ n1_ n2_ n3_ n4_ n5_ n6_; clear hb hbox hg; have hcz69_0 : w68.cell? ⟨gb195, 0, none⟩ = some (.int .i64 0) := (blk_cell BK195.out 0).trans rfl; have hcz69_1 : w68.cell? ⟨gb195, 1, none⟩ = some (.bool false) := (blk_cell BK195.out 1).trans rfl; have hcz69_2 : w68.cell? ⟨gb195, 2, none⟩ = some (.bool false) := (blk_cell BK195.out 2).trans rfl; have hcz69_3 : w68.cell? ⟨gb195, 3, none⟩ = some (.int .i64 0) := (blk_cell BK195.out 3).trans rfl; have hcz69_4 : w68.cell? ⟨gb195, 4, none⟩ = some (.bool false) := (blk_cell BK195.out 4).trans rfl; have hcz69_5 : w68.cell? ⟨gb195, 5, none⟩ = some (.slice none 0 0) := (blk_cell BK195.out 5).trans rfl; have hfz69_0 := blk_frozen BK195.out 0; have hfz69_1 := blk_frozen BK195.out 1; have hfz69_2 := blk_frozen BK195.out 2; have hfz69_3 := blk_frozen BK195.out 3; have hfz69_4 := blk_frozen BK195.out 4; have hfz69_5 := blk_frozen BK195.out 5))
                                      have n0_ : Aside0 (Kd.S k48 48 ((((((w68.setCell ⟨gb195, 0, none⟩ (.int .i64 ((rd_T48 t189 x44_2).f0))).setCell ⟨gb195, 1, none⟩ (.bool ((rd_T48 t189 x44_2).f1))).setCell ⟨gb195, 2, none⟩ (.bool ((rd_T48 t189 x44_2).f2))).setCell ⟨gb195, 3, none⟩ (.int .i64 ((rd_T48 t189 x44_2).f3))).setCell ⟨gb195, 4, none⟩ (.bool ((rd_T48 t189 x44_2).f4))).setCell ⟨gb195, 5, none⟩ (.slice A194_5 ((rd_T48 t189 x44_2).f5).length c194_5)) w.heap.size (fun k_ => k_ ≠ gb195) (.slice (some ad194) t189.length co18) t189) := ⟨by (with_reducible repeat (first | apply Kd.S_alloc | apply Go.Proofs.Ytnjbobboookfmaa.Ext.R_bytes | apply Kd.S_drewN | apply Kd.S_drew)); exact Kd.S_mono (Kd.S_far (p := ⟨gb195, 5, none⟩) (Kd.S_far (p := ⟨gb195, 4, none⟩) (Kd.S_far (p := ⟨gb195, 3, none⟩) (Kd.S_far (p := ⟨gb195, 2, none⟩) (Kd.S_far (p := ⟨gb195, 1, none⟩) (Kd.S_far (p := ⟨gb195, 0, none⟩) (Kd.S_mono HO_42.out (fun k_ hk => (⟨hk, hk.2⟩ : _ ∧ k_ ≠ gb195))) (fun _ hk => hk.2) (.int .i64 ((rd_T48 t189 x44_2).f0))) (fun _ hk => hk.2) (.bool ((rd_T48 t189 x44_2).f1))) (fun _ hk => hk.2) (.bool ((rd_T48 t189 x44_2).f2))) (fun _ hk => hk.2) (.int .i64 ((rd_T48 t189 x44_2).f3))) (fun _ hk => hk.2) (.bool ((rd_T48 t189 x44_2).f4))) (fun _ hk => hk.2) (.slice A194_5 ((rd_T48 t189 x44_2).f5).length c194_5)) (fun _ hk => hk.1.2)⟩
                                      have n1_ : Aside0 (Kd.R (Kd.int .i64) 2 ((((((w68.setCell ⟨gb195, 0, none⟩ (.int .i64 ((rd_T48 t189 x44_2).f0))).setCell ⟨gb195, 1, none⟩ (.bool ((rd_T48 t189 x44_2).f1))).setCell ⟨gb195, 2, none⟩ (.bool ((rd_T48 t189 x44_2).f2))).setCell ⟨gb195, 3, none⟩ (.int .i64 ((rd_T48 t189 x44_2).f3))).setCell ⟨gb195, 4, none⟩ (.bool ((rd_T48 t189 x44_2).f4))).setCell ⟨gb195, 5, none⟩ (.slice A194_5 ((rd_T48 t189 x44_2).f5).length c194_5)) w.heap.size (fun k_ => some k_ ≠ (.slice (some ad194) t189.length co18 : Value).ownBlock) (.slice A194_5 ((rd_T48 t189 x44_2).f5).length c194_5) ((rd_T48 t189 x44_2).f5)) := ⟨by (with_reducible repeat (first | apply Kd.R_alloc | apply Go.Proofs.Ytnjbobboookfmaa.Ext.R_bytes | apply Kd.R_drewN | apply Kd.R_drew)); exact Kd.R_mono (Kd.R_far (p := ⟨gb195, 5, none⟩) (Kd.R_far (p := ⟨gb195, 4, none⟩) (Kd.R_far (p := ⟨gb195, 3, none⟩) (Kd.R_far (p := ⟨gb195, 2, none⟩) (Kd.R_far (p := ⟨gb195, 1, none⟩) (Kd.R_far (p := ⟨gb195, 0, none⟩) (Kd.R_types HL194_5.out BK195.out (by decide)) (fun _ hk => hk.2) (.int .i64 ((rd_T48 t189 x44_2).f0))) (fun _ hk => hk.2) (.bool ((rd_T48 t189 x44_2).f1))) (fun _ hk => hk.2) (.bool ((rd_T48 t189 x44_2).f2))) (fun _ hk => hk.2) (.int .i64 ((rd_T48 t189 x44_2).f3))) (fun _ hk => hk.2) (.bool ((rd_T48 t189 x44_2).f4))) (fun _ hk => hk.2) (.slice A194_5 ((rd_T48 t189 x44_2).f5).length c194_5)) (fun _ hk => hk.1.2)⟩
                                      have n2_ : Aside0 (((((((w68.setCell ⟨gb195, 0, none⟩ (.int .i64 ((rd_T48 t189 x44_2).f0))).setCell ⟨gb195, 1, none⟩ (.bool ((rd_T48 t189 x44_2).f1))).setCell ⟨gb195, 2, none⟩ (.bool ((rd_T48 t189 x44_2).f2))).setCell ⟨gb195, 3, none⟩ (.int .i64 ((rd_T48 t189 x44_2).f3))).setCell ⟨gb195, 4, none⟩ (.bool ((rd_T48 t189 x44_2).f4))).setCell ⟨gb195, 5, none⟩ (.slice A194_5 ((rd_T48 t189 x44_2).f5).length c194_5)).heap[gb195]? = some (.cells #[.int .i64 ((rd_T48 t189 x44_2).f0), .bool ((rd_T48 t189 x44_2).f1), .bool ((rd_T48 t189 x44_2).f2), .int .i64 ((rd_T48 t189 x44_2).f3), .bool ((rd_T48 t189 x44_2).f4), .slice A194_5 ((rd_T48 t189 x44_2).f5).length c194_5] 48 (0, 0))) := ⟨by (with_reducible repeat (first | refine blk_drewN ?_ _ | refine blk_drew ?_ | refine blk_alloc ?_ _)); refine blk_put (cs := #[.int .i64 ((rd_T48 t189 x44_2).f0), .bool ((rd_T48 t189 x44_2).f1), .bool ((rd_T48 t189 x44_2).f2), .int .i64 ((rd_T48 t189 x44_2).f3), .bool ((rd_T48 t189 x44_2).f4), .slice none 0 0]) ?_ 5 _ rfl; (with_reducible repeat (first | refine blk_drewN ?_ _ | refine blk_drew ?_ | refine blk_alloc ?_ _)); refine blk_put (cs := #[.int .i64 ((rd_T48 t189 x44_2).f0), .bool ((rd_T48 t189 x44_2).f1), .bool ((rd_T48 t189 x44_2).f2), .int .i64 ((rd_T48 t189 x44_2).f3), .bool false, .slice none 0 0]) ?_ 4 _ rfl; (with_reducible repeat (first | refine blk_drewN ?_ _ | refine blk_drew ?_ | refine blk_alloc ?_ _)); refine blk_put (cs := #[.int .i64 ((rd_T48 t189 x44_2).f0), .bool ((rd_T48 t189 x44_2).f1), .bool ((rd_T48 t189 x44_2).f2), .int .i64 0, .bool false, .slice none 0 0]) ?_ 3 _ rfl; (with_reducible repeat (first | refine blk_drewN ?_ _ | refine blk_drew ?_ | refine blk_alloc ?_ _)); refine blk_put (cs := #[.int .i64 ((rd_T48 t189 x44_2).f0), .bool ((rd_T48 t189 x44_2).f1), .bool false, .int .i64 0, .bool false, .slice none 0 0]) ?_ 2 _ rfl; (with_reducible repeat (first | refine blk_drewN ?_ _ | refine blk_drew ?_ | refine blk_alloc ?_ _)); refine blk_put (cs := #[.int .i64 ((rd_T48 t189 x44_2).f0), .bool false, .bool false, .int .i64 0, .bool false, .slice none 0 0]) ?_ 1 _ rfl; (with_reducible repeat (first | refine blk_drewN ?_ _ | refine blk_drew ?_ | refine blk_alloc ?_ _)); refine blk_put (cs := #[.int .i64 0, .bool false, .bool false, .int .i64 0, .bool false, .slice none 0 0]) ?_ 0 _ rfl; (with_reducible repeat (first | refine blk_drewN ?_ _ | refine blk_drew ?_ | refine blk_alloc ?_ _)); exact BK195.out⟩
                                      have n3_ : Aside0 (Below w.heap.size w ((((((w68.setCell ⟨gb195, 0, none⟩ (.int .i64 ((rd_T48 t189 x44_2).f0))).setCell ⟨gb195, 1, none⟩ (.bool ((rd_T48 t189 x44_2).f1))).setCell ⟨gb195, 2, none⟩ (.bool ((rd_T48 t189 x44_2).f2))).setCell ⟨gb195, 3, none⟩ (.int .i64 ((rd_T48 t189 x44_2).f3))).setCell ⟨gb195, 4, none⟩ (.bool ((rd_T48 t189 x44_2).f4))).setCell ⟨gb195, 5, none⟩ (.slice A194_5 ((rd_T48 t189 x44_2).f5).length c194_5))) := ⟨by repeat (first | (with_reducible first | exact HB.out | apply below_alloc | apply Go.Proofs.Ytnjbobboookfmaa.Ext.below_bytes | apply pw_below_drewN | apply below_drew1 | refine below_set ?_ GE195.out) | exact HB.out)⟩
                                      (try clear HO_42)
                                      (try clear HL194_5)
                                      (try clear BK195)
                                      (try clear HB)
                                      generalize ((((((w68.setCell ⟨gb195, 0, none⟩ (.int .i64 ((rd_T48 t189 x44_2).f0))).setCell ⟨gb195, 1, none⟩ (.bool ((rd_T48 t189 x44_2).f1))).setCell ⟨gb195, 2, none⟩ (.bool ((rd_T48 t189 x44_2).f2))).setCell ⟨gb195, 3, none⟩ (.int .i64 ((rd_T48 t189 x44_2).f3))).setCell ⟨gb195, 4, none⟩ (.bool ((rd_T48 t189 x44_2).f4))).setCell ⟨gb195, 5, none⟩ (.slice A194_5 ((rd_T48 t189 x44_2).f5).length c194_5)) = w70 at n0_ n1_ n2_ n3_ ⊢
                                      have HO_42 := n0_
                                      have HL194_5 := n1_
                                      have BK195 := n2_
                                      have HB := n3_
                                      clear n0_ n1_ n2_ n3_
                                      have n0_ := Aside0.mk (Kd.S_drew HO_42.out)
                                      have n1_ := Aside0.mk (Kd.R_drew HL194_5.out)
                                      have n2_ := Aside0.mk (blk_drew BK195.out)
                                      have n3_ := Aside0.mk (below_drew1 HB.out)
                                      clear HO_42
                                      clear HL194_5
                                      clear BK195
                                      clear HB
                                      have HO_42 := n0_
                                      have HL194_5 := n1_
                                      have BK195 := n2_
                                      have HB := n3_
                                      clear n0_ n1_ n2_ n3_
                                      refine start_ (n := 39) (S := fun w' => w'.cell? ⟨gb195, 0, none⟩ = some (.int .i64 ((rd_T48 t189 x44_2).f0)) ∧ w'.cell? ⟨gb195, 1, none⟩ = some (.bool ((rd_T48 t189 x44_2).f1)) ∧ w'.cell? ⟨gb195, 2, none⟩ = some (.bool ((rd_T48 t189 x44_2).f2)) ∧ w'.cell? ⟨gb195, 3, none⟩ = some (.int .i64 ((rd_T48 t189 x44_2).f3)) ∧ w'.cell? ⟨gb195, 4, none⟩ = some (.bool ((rd_T48 t189 x44_2).f4)) ∧ w'.cell? ⟨gb195, 5, none⟩ = some (.slice A194_5 ((rd_T48 t189 x44_2).f5).length c194_5)) (ds := []) #[false, false, false, false, false, false, false, false, false, false, false, false, false, false, false, false, false, false, false, false, false, false, false, false, false, false, false, false, false, false, false, false, false, false, false, false, false, false, false] (by kernel_rfl) rfl rfl ⟨(blk_cell BK195.out 0).trans rfl, (blk_cell BK195.out 1).trans rfl, (blk_cell BK195.out 2).trans rfl, (blk_cell BK195.out 3).trans rfl, (blk_cell BK195.out 4).trans rfl, (blk_cell BK195.out 5).trans rfl⟩ (fun hHeld => ?_); refine with_tabW laws_FnParams.tab16 laws_FnParams.bits16 (fun HT_ HW_ => ?_)
                                      (try (have c59b8f : (rd_T48 t189 x44_2).f2 = false := by simpa using c59b0))
                                      (try (have c61b8f : (rd_T48 t189 x44_2).f1 = false := by simpa using c61b0))
                                      (try (have c64b8f : (rd_T48 t189 x44_2).f4 = false := by simpa using c64b0))
                                      generalize w70.drew = w71 at HO_42 HL194_5 BK195 HB hHeld ⊢
                                      refine pure_ (i := 0) (N := some 72) (v := ?_) (a' := ?_) #[true, false, false, false, false, false, false, false, false, false, false, false, false, false, false, false, false, false, false, false, false, false, false, false, false, false, false, false, false, false, false, false, false, false, false, false, false, false, false] rfl rfl (any_of HT_.out (by kernel_rfl)) (fun _ _ _ h => h) (Or.inl ⟨by rfl, ?_⟩) ?_ ?_
                                      rotate_left
                                      · intro w'
                                        go_simp
                                        with_reducible rfl
                                      rotate_left
                                      · simp only [Act.put, List.setIfInBounds_toArray, List.set_cons_zero, List.set_cons_succ, i64_w, i32_w]
                                        rfl
                                      refine pure_ (i := 2) (N := some 74) (v := ?_) (a' := ?_) #[true, false, true, false, false, false, false, false, false, false, false, false, false, false, false, false, false, false, false, false, false, false, false, false, false, false, false, false, false, false, false, false, false, false, false, false, false, false, false] rfl rfl (any_of HT_.out (by kernel_rfl)) (fun _ _ _ h => h) (Or.inl ⟨by rfl, ?_⟩) ?_ ?_
                                      rotate_left
                                      · intro w'
                                        go_simp
                                        with_reducible rfl
                                      rotate_left
                                      · simp only [Act.put, List.setIfInBounds_toArray, List.set_cons_zero, List.set_cons_succ, i64_w, i32_w]
                                        rfl
                                      refine take_ (i := 1) (N := some 73) (v := ?_) (a' := ?_) #[true, true, true, false, false, false, false, false, false, false, false, false, false, false, false, false, false, false, false, false, false, false, false, false, false, false, false, false, false, false, false, false, false, false, false, false, false, false, false] rfl rfl (take_ofW HT_.out HW_.out (by kernel_rfl)) (fun _ _ _ h => h) (Or.inl ⟨by rfl, ?_⟩) hHeld ?_ ?_
                                      rotate_left
                                      · rintro w' ⟨s0, s1, s2, s3, s4, s5⟩
                                        go_simp
                                        with_reducible rfl
                                      rotate_left
                                      · simp only [Act.put, List.setIfInBounds_toArray, List.set_cons_zero, List.set_cons_succ, i64_w, i32_w]
                                        rfl
                                      refine pure_ (i := 3) (N := some 75) (v := ?_) (a' := ?_) #[true, true, true, true, false, false, false, false, false, false, false, false, false, false, false, false, false, false, false, false, false, false, false, false, false, false, false, false, false, false, false, false, false, false, false, false, false, false, false] rfl rfl (any_of HT_.out (by kernel_rfl)) (fun _ _ _ h => h) (Or.inl ⟨by rfl, ?_⟩) ?_ ?_
                                      rotate_left
                                      · intro w'
                                        go_simp
                                        with_reducible rfl
                                      rotate_left
                                      · simp only [Act.put, List.setIfInBounds_toArray, List.set_cons_zero, List.set_cons_succ, i64_w, i32_w]
                                        rfl
                                      refine pure_ (i := 4) (N := some 76) (v := ?_) (a' := ?_) #[true, true, true, true, true, false, false, false, false, false, false, false, false, false, false, false, false, false, false, false, false, false, false, false, false, false, false, false, false, false, false, false, false, false, false, false, false, false, false] rfl rfl (any_of HT_.out (by kernel_rfl)) (fun _ _ _ h => h) (Or.inl ⟨by rfl, ?_⟩) ?_ ?_
                                      rotate_left
                                      · intro w'
                                        go_simp
                                        with_reducible rfl
                                      rotate_left
                                      · simp only [Act.put, List.setIfInBounds_toArray, List.set_cons_zero, List.set_cons_succ, i64_w, i32_w]
                                        rfl
                                      refine pure_ (i := 5) (N := some 77) (v := ?_) (a' := ?_) #[true, true, true, true, true, true, false, false, false, false, false, false, false, false, false, false, false, false, false, false, false, false, false, false, false, false, false, false, false, false, false, false, false, false, false, false, false, false, false] rfl rfl (any_of HT_.out (by kernel_rfl)) (fun _ _ _ h => h) (Or.inl ⟨by rfl, ?_⟩) ?_ ?_
                                      rotate_left
                                      · intro w'
                                        go_simp
                                        with_reducible rfl
                                      rotate_left
                                      · simp only [Act.put, List.setIfInBounds_toArray, List.set_cons_zero, List.set_cons_succ, i64_w, i32_w]
                                        rfl
                                      refine pure_ (i := 7) (N := some 79) (v := ?_) (a' := ?_) #[true, true, true, true, true, true, false, true, false, false, false, false, false, false, false, false, false, false, false, false, false, false, false, false, false, false, false, false, false, false, false, false, false, false, false, false, false, false, false] rfl rfl (any_of HT_.out (by kernel_rfl)) (fun _ _ _ h => h) (Or.inl ⟨by rfl, ?_⟩) ?_ ?_
                                      rotate_left
                                      · intro w'
                                        go_simp
                                        with_reducible rfl
                                      rotate_left
                                      · simp only [Act.put, List.setIfInBounds_toArray, List.set_cons_zero, List.set_cons_succ, i64_w, i32_w]
                                        rfl
                                      refine take_ (i := 6) (N := some 78) (v := ?_) (a' := ?_) #[true, true, true, true, true, true, true, true, false, false, false, false, false, false, false, false, false, false, false, false, false, false, false, false, false, false, false, false, false, false, false, false, false, false, false, false, false, false, false] rfl rfl (take_ofW HT_.out HW_.out (by kernel_rfl)) (fun _ _ _ h => h) (Or.inl ⟨by rfl, ?_⟩) hHeld ?_ ?_
                                      rotate_left
                                      · rintro w' ⟨s0, s1, s2, s3, s4, s5⟩
                                        go_simp
                                        with_reducible rfl
                                      rotate_left
                                      · simp only [Act.put, List.setIfInBounds_toArray, List.set_cons_zero, List.set_cons_succ, i64_w, i32_w]
                                        rfl
                                      refine pure_ (i := 8) (N := some 80) (v := ?_) (a' := ?_) #[true, true, true, true, true, true, true, true, true, false, false, false, false, false, false, false, false, false, false, false, false, false, false, false, false, false, false, false, false, false, false, false, false, false, false, false, false, false, false] rfl rfl (any_of HT_.out (by kernel_rfl)) (fun _ _ _ h => h) (Or.inl ⟨by rfl, ?_⟩) ?_ ?_
                                      rotate_left
                                      · intro w'
                                        go_simp
                                        with_reducible rfl
                                      rotate_left
                                      · simp only [Act.put, List.setIfInBounds_toArray, List.set_cons_zero, List.set_cons_succ, i64_w, i32_w]
                                        rfl
                                      refine pure_ (i := 9) (N := some 81) (v := ?_) (a' := ?_) #[true, true, true, true, true, true, true, true, true, true, false, false, false, false, false, false, false, false, false, false, false, false, false, false, false, false, false, false, false, false, false, false, false, false, false, false, false, false, false] rfl rfl (any_of HT_.out (by kernel_rfl)) (fun _ _ _ h => h) (Or.inl ⟨by rfl, ?_⟩) ?_ ?_
                                      rotate_left
                                      · intro w'
                                        go_simp
                                        with_reducible rfl
                                      rotate_left
                                      · simp only [Act.put, List.setIfInBounds_toArray, List.set_cons_zero, List.set_cons_succ, i64_w, i32_w]
                                        rfl
                                      refine pure_ (i := 10) (N := some 82) (v := ?_) (a' := ?_) #[true, true, true, true, true, true, true, true, true, true, true, false, false, false, false, false, false, false, false, false, false, false, false, false, false, false, false, false, false, false, false, false, false, false, false, false, false, false, false] rfl rfl (any_of HT_.out (by kernel_rfl)) (fun _ _ _ h => h) (Or.inl ⟨by rfl, ?_⟩) ?_ ?_
                                      rotate_left
                                      · intro w'
                                        go_simp
                                        with_reducible rfl
                                      rotate_left
                                      · simp only [Act.put, List.setIfInBounds_toArray, List.set_cons_zero, List.set_cons_succ, i64_w, i32_w]
                                        rfl
                                      refine pure_ (i := 11) (N := some 83) (v := ?_) (a' := ?_) #[true, true, true, true, true, true, true, true, true, true, true, true, false, false, false, false, false, false, false, false, false, false, false, false, false, false, false, false, false, false, false, false, false, false, false, false, false, false, false] rfl rfl (any_of HT_.out (by kernel_rfl)) (fun _ _ _ h => h) (Or.inl ⟨by rfl, ?_⟩) ?_ ?_
                                      rotate_left
                                      · intro w'
                                        go_simp
                                        with_reducible rfl
                                      rotate_left
                                      · simp only [Act.put, List.setIfInBounds_toArray, List.set_cons_zero, List.set_cons_succ, i64_w, i32_w]
                                        rfl
                                      refine pure_ (i := 13) (N := some 85) (v := ?_) (a' := ?_) #[true, true, true, true, true, true, true, true, true, true, true, true, false, true, false, false, false, false, false, false, false, false, false, false, false, false, false, false, false, false, false, false, false, false, false, false, false, false, false] rfl rfl (any_of HT_.out (by kernel_rfl)) (fun _ _ _ h => h) (Or.inl ⟨by rfl, ?_⟩) ?_ ?_
                                      rotate_left
                                      · intro w'
                                        go_simp
                                        with_reducible rfl
                                      rotate_left
                                      · simp only [Act.put, List.setIfInBounds_toArray, List.set_cons_zero, List.set_cons_succ, i64_w, i32_w]
                                        rfl
                                      refine take_ (i := 12) (N := some 84) (v := ?_) (a' := ?_) #[true, true, true, true, true, true, true, true, true, true, true, true, true, true, false, false, false, false, false, false, false, false, false, false, false, false, false, false, false, false, false, false, false, false, false, false, false, false, false] rfl rfl (take_ofW HT_.out HW_.out (by kernel_rfl)) (fun _ _ _ h => h) (Or.inl ⟨by rfl, ?_⟩) hHeld ?_ ?_
                                      rotate_left
                                      · rintro w' ⟨s0, s1, s2, s3, s4, s5⟩
                                        go_simp
                                        with_reducible rfl
                                      rotate_left
                                      · simp only [Act.put, List.setIfInBounds_toArray, List.set_cons_zero, List.set_cons_succ, i64_w, i32_w]
                                        rfl
                                      refine pure_ (i := 14) (N := some 86) (v := ?_) (a' := ?_) #[true, true, true, true, true, true, true, true, true, true, true, true, true, true, true, false, false, false, false, false, false, false, false, false, false, false, false, false, false, false, false, false, false, false, false, false, false, false, false] rfl rfl (any_of HT_.out (by kernel_rfl)) (fun _ _ _ h => h) (Or.inl ⟨by rfl, ?_⟩) ?_ ?_
                                      rotate_left
                                      · intro w'
                                        go_simp
                                        with_reducible rfl
                                      rotate_left
                                      · simp only [Act.put, List.setIfInBounds_toArray, List.set_cons_zero, List.set_cons_succ, i64_w, i32_w]
                                        rfl
                                      refine pure_ (i := 15) (N := some 87) (v := ?_) (a' := ?_) #[true, true, true, true, true, true, true, true, true, true, true, true, true, true, true, true, false, false, false, false, false, false, false, false, false, false, false, false, false, false, false, false, false, false, false, false, false, false, false] rfl rfl (any_of HT_.out (by kernel_rfl)) (fun _ _ _ h => h) (Or.inl ⟨by rfl, ?_⟩) ?_ ?_
                                      rotate_left
                                      · intro w'
                                        go_simp
                                        with_reducible rfl
                                      rotate_left
                                      · simp only [Act.put, List.setIfInBounds_toArray, List.set_cons_zero, List.set_cons_succ, i64_w, i32_w]
                                        rfl
                                      refine pure_ (i := 16) (N := some 88) (v := ?_) (a' := ?_) #[true, true, true, true, true, true, true, true, true, true, true, true, true, true, true, true, true, false, false, false, false, false, false, false, false, false, false, false, false, false, false, false, false, false, false, false, false, false, false] rfl rfl (any_of HT_.out (by kernel_rfl)) (fun _ _ _ h => h) (Or.inl ⟨by rfl, ?_⟩) ?_ ?_
                                      rotate_left
                                      · intro w'
                                        go_simp
                                        with_reducible rfl
                                      rotate_left
                                      · simp only [Act.put, List.setIfInBounds_toArray, List.set_cons_zero, List.set_cons_succ, i64_w, i32_w]
                                        rfl
                                      refine pure_ (i := 17) (N := some 89) (v := ?_) (a' := ?_) #[true, true, true, true, true, true, true, true, true, true, true, true, true, true, true, true, true, true, false, false, false, false, false, false, false, false, false, false, false, false, false, false, false, false, false, false, false, false, false] rfl rfl (any_of HT_.out (by kernel_rfl)) (fun _ _ _ h => h) (Or.inl ⟨by rfl, ?_⟩) ?_ ?_
                                      rotate_left
                                      · intro w'
                                        go_simp
                                        with_reducible rfl
                                      rotate_left
                                      · simp only [Act.put, List.setIfInBounds_toArray, List.set_cons_zero, List.set_cons_succ, i64_w, i32_w]
                                        rfl
                                      refine pure_ (i := 19) (N := some 91) (v := ?_) (a' := ?_) #[true, true, true, true, true, true, true, true, true, true, true, true, true, true, true, true, true, true, false, true, false, false, false, false, false, false, false, false, false, false, false, false, false, false, false, false, false, false, false] rfl rfl (any_of HT_.out (by kernel_rfl)) (fun _ _ _ h => h) (Or.inl ⟨by rfl, ?_⟩) ?_ ?_
                                      rotate_left
                                      · intro w'
                                        go_simp
                                        with_reducible rfl
                                      rotate_left
                                      · simp only [Act.put, List.setIfInBounds_toArray, List.set_cons_zero, List.set_cons_succ, i64_w, i32_w]
                                        rfl
                                      refine pure_ (i := 20) (N := some 92) (v := ?_) (a' := ?_) #[true, true, true, true, true, true, true, true, true, true, true, true, true, true, true, true, true, true, false, true, true, false, false, false, false, false, false, false, false, false, false, false, false, false, false, false, false, false, false] rfl rfl (any_of HT_.out (by kernel_rfl)) (fun _ _ _ h => h) (Or.inl ⟨by rfl, ?_⟩) ?_ ?_
                                      rotate_left
                                      · intro w'
                                        go_simp
                                        with_reducible rfl
                                      rotate_left
                                      · simp only [Act.put, List.setIfInBounds_toArray, List.set_cons_zero, List.set_cons_succ, i64_w, i32_w]
                                        rfl
                                      refine take_ (i := 18) (N := some 90) (v := ?_) (a' := ?_) #[true, true, true, true, true, true, true, true, true, true, true, true, true, true, true, true, true, true, true, true, true, false, false, false, false, false, false, false, false, false, false, false, false, false, false, false, false, false, false] rfl rfl (take_ofW HT_.out HW_.out (by kernel_rfl)) (fun _ _ _ h => h) (Or.inl ⟨by rfl, ?_⟩) hHeld ?_ ?_
                                      rotate_left
                                      · rintro w' ⟨s0, s1, s2, s3, s4, s5⟩
                                        go_simp
                                        with_reducible rfl
                                      rotate_left
                                      · simp only [Act.put, List.setIfInBounds_toArray, List.set_cons_zero, List.set_cons_succ, i64_w, i32_w]
                                        rfl
                                      refine one_ (i := 21) (N := some 93) #[true, true, true, true, true, true, true, true, true, true, true, true, true, true, true, true, true, true, true, true, true, true, false, false, false, false, false, false, false, false, false, false, false, false, false, false, false, false, false] rfl rfl (one_of HT_.out (by kernel_rfl)) (by decide) (fun K hK => ?_)
                                      refine goes_ Try.func14 (by kernel_rfl) rfl #[.slice A0 l0.length c0, .int .i64 (wrap64 (x44_2 - 1))] (by rfl) rfl rfl (by (try simp only [List.map_toArray, List.map_cons, List.map_nil]); first | done | rfl | (simp only [List.length_drop, List.length_take]; rfl) | (simp [Act.eval, *]; done) | (simp [Act.eval, *]; unfold wrap64; omega)) ?_
                                      with_reducible refine (spec_PlainAt.calls _ _ l0 (wrap64 (x44_2 - 1)) t210 _ ?side1 ?side2 A62.out).mono ?_
                                      (case side1 => repeat (first | exact (Kd.C_below HR0.out HB.out) | (with_reducible refine Kd.C_alloc ?_ _) | (with_reducible refine Kd.C_drewN ?_ _) | (with_reducible refine Kd.C_drew ?_)))
                                      (case side2 => exact HC0.out)
                                      rintro e w' ⟨rfl, ⟨nd, rfl⟩⟩
                                      refine ⟨_, rfl, ?_⟩
                                      refine hK.out _ _ ⟨(blk_cell BK195.out 0).trans rfl, (blk_cell BK195.out 1).trans rfl, (blk_cell BK195.out 2).trans rfl, (blk_cell BK195.out 3).trans rfl, (blk_cell BK195.out 4).trans rfl, (blk_cell BK195.out 5).trans rfl⟩ (fun hHeld => ?_)
                                      clear hK K
                                      refine norm_ (a' := ?_) ?_ ?_
                                      rotate_left
                                      · show Act.put _ (some 93) _ = _
                                        simp only [Act.put, List.setIfInBounds_toArray, List.set_cons_zero, List.set_cons_succ, i64_w, i32_w]
                                        rfl
                                      refine pure_ (i := 22) (N := some 94) (v := ?_) (a' := ?_) #[true, true, true, true, true, true, true, true, true, true, true, true, true, true, true, true, true, true, true, true, true, true, true, false, false, false, false, false, false, false, false, false, false, false, false, false, false, false, false] rfl rfl (any_of HT_.out (by kernel_rfl)) (fun _ _ _ h => h) (Or.inl ⟨by rfl, ?_⟩) ?_ ?_
                                      rotate_left
                                      · intro w'
                                        go_simp
                                        with_reducible rfl
                                      rotate_left
                                      · simp only [Act.put, List.setIfInBounds_toArray, List.set_cons_zero, List.set_cons_succ, i64_w, i32_w]
                                        rfl
                                      refine pure_ (i := 23) (N := some 95) (v := ?_) (a' := ?_) #[true, true, true, true, true, true, true, true, true, true, true, true, true, true, true, true, true, true, true, true, true, true, true, true, false, false, false, false, false, false, false, false, false, false, false, false, false, false, false] rfl rfl (any_of HT_.out (by kernel_rfl)) (fun _ _ _ h => h) (Or.inl ⟨by rfl, ?_⟩) ?_ ?_
                                      rotate_left
                                      · intro w'
                                        go_simp
                                        with_reducible rfl
                                      rotate_left
                                      · simp only [Act.put, List.setIfInBounds_toArray, List.set_cons_zero, List.set_cons_succ, i64_w, i32_w]
                                        rfl
                                      refine pure_ (i := 24) (N := some 96) (v := ?_) (a' := ?_) #[true, true, true, true, true, true, true, true, true, true, true, true, true, true, true, true, true, true, true, true, true, true, true, true, true, false, false, false, false, false, false, false, false, false, false, false, false, false, false] rfl rfl (any_of HT_.out (by kernel_rfl)) (fun _ _ _ h => h) (Or.inl ⟨by rfl, ?_⟩) ?_ ?_
                                      rotate_left
                                      · intro w'
                                        go_simp
                                        with_reducible rfl
                                      rotate_left
                                      · simp only [Act.put, List.setIfInBounds_toArray, List.set_cons_zero, List.set_cons_succ, i64_w, i32_w]
                                        rfl
                                      refine pure_ (i := 25) (N := some 97) (v := ?_) (a' := ?_) #[true, true, true, true, true, true, true, true, true, true, true, true, true, true, true, true, true, true, true, true, true, true, true, true, true, true, false, false, false, false, false, false, false, false, false, false, false, false, false] rfl rfl (any_of HT_.out (by kernel_rfl)) (fun _ _ _ h => h) (Or.inl ⟨by rfl, ?_⟩) ?_ ?_
                                      rotate_left
                                      · intro w'
                                        go_simp
                                        with_reducible rfl
                                      rotate_left
                                      · simp only [Act.put, List.setIfInBounds_toArray, List.set_cons_zero, List.set_cons_succ, i64_w, i32_w]
                                        rfl
                                      refine pure_ (i := 27) (N := some 99) (v := ?_) (a' := ?_) #[true, true, true, true, true, true, true, true, true, true, true, true, true, true, true, true, true, true, true, true, true, true, true, true, true, true, false, true, false, false, false, false, false, false, false, false, false, false, false] rfl rfl (any_of HT_.out (by kernel_rfl)) (fun _ _ _ h => h) (Or.inl ⟨by rfl, ?_⟩) ?_ ?_
                                      rotate_left
                                      · intro w'
                                        go_simp
                                        with_reducible rfl
                                      rotate_left
                                      · simp only [Act.put, List.setIfInBounds_toArray, List.set_cons_zero, List.set_cons_succ, i64_w, i32_w]
                                        rfl
                                      refine take_ (i := 26) (N := some 98) (v := ?_) (a' := ?_) #[true, true, true, true, true, true, true, true, true, true, true, true, true, true, true, true, true, true, true, true, true, true, true, true, true, true, true, true, false, false, false, false, false, false, false, false, false, false, false] rfl rfl (take_ofW HT_.out HW_.out (by kernel_rfl)) (fun _ _ _ h => h) (Or.inl ⟨by rfl, ?_⟩) hHeld ?_ ?_
                                      rotate_left
                                      · rintro w' ⟨s0, s1, s2, s3, s4, s5⟩
                                        go_simp
                                        with_reducible rfl
                                      rotate_left
                                      · simp only [Act.put, List.setIfInBounds_toArray, List.set_cons_zero, List.set_cons_succ, i64_w, i32_w]
                                        rfl
                                      refine pure_ (i := 28) (N := some 100) (v := ?_) (a' := ?_) #[true, true, true, true, true, true, true, true, true, true, true, true, true, true, true, true, true, true, true, true, true, true, true, true, true, true, true, true, true, false, false, false, false, false, false, false, false, false, false] rfl rfl (any_of HT_.out (by kernel_rfl)) (fun _ _ _ h => h) (Or.inl ⟨by rfl, ?_⟩) ?_ ?_
                                      rotate_left
                                      · intro w'
                                        go_simp
                                        with_reducible rfl
                                      rotate_left
                                      · simp only [Act.put, List.setIfInBounds_toArray, List.set_cons_zero, List.set_cons_succ, i64_w, i32_w]
                                        rfl
                                      refine pure_ (i := 29) (N := some 101) (v := ?_) (a' := ?_) #[true, true, true, true, true, true, true, true, true, true, true, true, true, true, true, true, true, true, true, true, true, true, true, true, true, true, true, true, true, true, false, false, false, false, false, false, false, false, false] rfl rfl (any_of HT_.out (by kernel_rfl)) (fun _ _ _ h => h) (Or.inl ⟨by rfl, ?_⟩) ?_ ?_
                                      rotate_left
                                      · intro w'
                                        go_simp
                                        with_reducible rfl
                                      rotate_left
                                      · simp only [Act.put, List.setIfInBounds_toArray, List.set_cons_zero, List.set_cons_succ, i64_w, i32_w]
                                        rfl
                                      refine pure_ (i := 30) (N := some 102) (v := ?_) (a' := ?_) #[true, true, true, true, true, true, true, true, true, true, true, true, true, true, true, true, true, true, true, true, true, true, true, true, true, true, true, true, true, true, true, false, false, false, false, false, false, false, false] rfl rfl (any_of HT_.out (by kernel_rfl)) (fun _ _ _ h => h) (Or.inl ⟨by rfl, ?_⟩) ?_ ?_
                                      rotate_left
                                      · intro w'
                                        go_simp
                                        with_reducible rfl
                                      rotate_left
                                      · simp only [Act.put, List.setIfInBounds_toArray, List.set_cons_zero, List.set_cons_succ, i64_w, i32_w]
                                        rfl
                                      refine pure_ (i := 31) (N := some 103) (v := ?_) (a' := ?_) #[true, true, true, true, true, true, true, true, true, true, true, true, true, true, true, true, true, true, true, true, true, true, true, true, true, true, true, true, true, true, true, true, false, false, false, false, false, false, false] rfl rfl (any_of HT_.out (by kernel_rfl)) (fun _ _ _ h => h) (Or.inl ⟨by rfl, ?_⟩) ?_ ?_
                                      rotate_left
                                      · intro w'
                                        go_simp
                                        with_reducible rfl
                                      rotate_left
                                      · simp only [Act.put, List.setIfInBounds_toArray, List.set_cons_zero, List.set_cons_succ, i64_w, i32_w]
                                        rfl
                                      refine pure_ (i := 33) (N := some 105) (v := ?_) (a' := ?_) #[true, true, true, true, true, true, true, true, true, true, true, true, true, true, true, true, true, true, true, true, true, true, true, true, true, true, true, true, true, true, true, true, false, true, false, false, false, false, false] rfl rfl (any_of HT_.out (by kernel_rfl)) (fun _ _ _ h => h) (Or.inl ⟨by rfl, ?_⟩) ?_ ?_
                                      rotate_left
                                      · intro w'
                                        go_simp
                                        with_reducible rfl
                                      rotate_left
                                      · simp only [Act.put, List.setIfInBounds_toArray, List.set_cons_zero, List.set_cons_succ, i64_w, i32_w]
                                        rfl
                                      refine pure_ (i := 34) (N := some 106) (v := ?_) (a' := ?_) #[true, true, true, true, true, true, true, true, true, true, true, true, true, true, true, true, true, true, true, true, true, true, true, true, true, true, true, true, true, true, true, true, false, true, true, false, false, false, false] rfl rfl (any_of HT_.out (by kernel_rfl)) (fun _ _ _ h => h) (Or.inl ⟨by rfl, ?_⟩) ?_ ?_
                                      rotate_left
                                      · intro w'
                                        go_simp
                                        with_reducible rfl
                                      rotate_left
                                      · simp only [Act.put, List.setIfInBounds_toArray, List.set_cons_zero, List.set_cons_succ, i64_w, i32_w]
                                        rfl
                                      refine take_ (i := 32) (N := some 104) (v := ?_) (a' := ?_) #[true, true, true, true, true, true, true, true, true, true, true, true, true, true, true, true, true, true, true, true, true, true, true, true, true, true, true, true, true, true, true, true, true, true, true, false, false, false, false] rfl rfl (take_ofW HT_.out HW_.out (by kernel_rfl)) (fun _ _ _ h => h) (Or.inl ⟨by rfl, ?_⟩) hHeld ?_ ?_
                                      rotate_left
                                      · rintro w' ⟨s0, s1, s2, s3, s4, s5⟩
                                        go_simp
                                        with_reducible rfl
                                      rotate_left
                                      · simp only [Act.put, List.setIfInBounds_toArray, List.set_cons_zero, List.set_cons_succ, i64_w, i32_w]
                                        rfl
                                      refine one_ (i := 35) (N := some 107) #[true, true, true, true, true, true, true, true, true, true, true, true, true, true, true, true, true, true, true, true, true, true, true, true, true, true, true, true, true, true, true, true, true, true, true, true, false, false, false] rfl rfl (one_of HT_.out (by kernel_rfl)) (by decide) (fun K hK => ?_)
                                      refine goes_ Try.func16 (by kernel_rfl) rfl #[.slice A0 l0.length c0, .int .i64 (wrap64 (x44_2 - 1))] (by rfl) rfl rfl (by (try simp only [List.map_toArray, List.map_cons, List.map_nil]); first | done | rfl | (simp only [List.length_drop, List.length_take]; rfl) | (simp [Act.eval, *]; done) | (simp [Act.eval, *]; unfold wrap64; omega)) ?_
                                      with_reducible refine (spec_Subs.calls k2 _ _ l0 (wrap64 (x44_2 - 1)) t211 _ ?side1 ?side2 A65.out).mono ?_
                                      (case side1 => repeat (first | exact (Kd.C_below HR0.out (by repeat (first | (with_reducible first | exact HB.out | apply below_alloc | apply Go.Proofs.Ytnjbobboookfmaa.Ext.below_bytes | apply pw_below_drewN | apply below_drew1 | refine below_set ?_ GE195.out) | exact HB.out))) | (with_reducible refine Kd.C_alloc ?_ _) | (with_reducible refine Kd.C_drewN ?_ _) | (with_reducible refine Kd.C_drew ?_)))
                                      (case side2 => exact HC0.out)
                                      rintro e w72 ⟨v212, rfl, ho0, hb⟩
                                      refine ⟨_, rfl, ?_⟩
                                      have n0_ := Aside0.mk (Kd.S_elder' (by (with_reducible repeat (first | apply Kd.S_alloc | apply Go.Proofs.Ytnjbobboookfmaa.Ext.R_bytes | apply Kd.S_drewN | apply Kd.S_drew)); exact HO_42.out) (Kd.R_base ho0) hb)
                                      have n1_ := Aside0.mk (Kd.R_elder' (by (with_reducible repeat (first | apply Kd.R_alloc | apply Go.Proofs.Ytnjbobboookfmaa.Ext.R_bytes | apply Kd.R_drewN | apply Kd.R_drew)); exact HL194_5.out) (Kd.R_base ho0) hb)
                                      have n2_ := Aside0.mk (Kd.R_lower (Kd.R_new' ho0 (Kd.R_lt (by (with_reducible repeat (first | apply Kd.R_alloc | apply Go.Proofs.Ytnjbobboookfmaa.Ext.R_bytes | apply Kd.R_drewN | apply Kd.R_drew)); exact HL194_5.out))) (below_size (by repeat (first | (with_reducible first | exact HB.out | apply below_alloc | apply Go.Proofs.Ytnjbobboookfmaa.Ext.below_bytes | apply pw_below_drewN | apply below_drew1 | refine below_set ?_ GE195.out) | exact HB.out))))
                                      have n3_ := Aside0.mk (blk_below (g := gb195) (o := .cells #[.int .i64 ((rd_T48 t189 x44_2).f0), .bool ((rd_T48 t189 x44_2).f1), .bool ((rd_T48 t189 x44_2).f2), .int .i64 ((rd_T48 t189 x44_2).f3), .bool ((rd_T48 t189 x44_2).f4), .slice A194_5 ((rd_T48 t189 x44_2).f5).length c194_5] 48 (0, 0)) (by (with_reducible repeat (first | refine blk_drewN ?_ _ | refine blk_drew ?_ | refine blk_alloc ?_ _)); exact BK195.out) hb)
                                      have n4_ := Aside0.mk (below_step (by repeat (first | (with_reducible first | exact HB.out | apply below_alloc | apply Go.Proofs.Ytnjbobboookfmaa.Ext.below_bytes | apply pw_below_drewN | apply below_drew1 | refine below_set ?_ GE195.out) | exact HB.out)) hb)
                                      clear HO_42
                                      clear HL194_5
                                      clear BK195
                                      clear HB
                                      have HO_42 := n0_
                                      have HL194_5 := n1_
                                      have HO213 := n2_
                                      have BK195 := n3_
                                      have HB := n4_
                                      clear n0_ n1_ n2_ n3_ n4_
                                      (try clear hb)
                                      (try clear hb2)
                                      (try clear hk)
                                      (try clear hi)
                                      (try clear ho0)
                                      obtain ⟨Ao73, co73, eo73⟩ := Kd.R_slice HO213.out
                                      (first | subst eo73 | (injection eo73 with f1_ f2_ f3_; have f4_ := f1_.symm; have f5_ := f3_.symm; clear f1_ f2_ f3_; subst f4_; subst f5_))
                                      refine hK.out _ _ ⟨(blk_cell BK195.out 0).trans rfl, (blk_cell BK195.out 1).trans rfl, (blk_cell BK195.out 2).trans rfl, (blk_cell BK195.out 3).trans rfl, (blk_cell BK195.out 4).trans rfl, (blk_cell BK195.out 5).trans rfl⟩ (fun hHeld => ?_)
                                      clear hK K
                                      refine norm_ (a' := ?_) ?_ ?_
                                      rotate_left
                                      · show Act.put _ (some 107) _ = _
                                        simp only [Act.put, List.setIfInBounds_toArray, List.set_cons_zero, List.set_cons_succ, i64_w, i32_w]
                                        rfl
                                      refine one_ (i := 36) (N := some 108) #[true, true, true, true, true, true, true, true, true, true, true, true, true, true, true, true, true, true, true, true, true, true, true, true, true, true, true, true, true, true, true, true, true, true, true, true, true, false, false] rfl rfl (one_of HT_.out (by kernel_rfl)) (by decide) (fun K hK => ?_)
                                      refine goes_ Try.func15 (by kernel_rfl) rfl #[.slice A194_5 ((rd_T48 t189 x44_2).f5).length c194_5, .slice Ao73 t211.length co73] (by rfl) rfl rfl (by (try simp only [List.map_toArray, List.map_cons, List.map_nil]); first | done | rfl | (simp only [List.length_drop, List.length_take]; rfl) | (simp [Act.eval, *]; done) | (simp [Act.eval, *]; unfold wrap64; omega)) ?_
                                      with_reducible refine (spec_SameInts.calls k2 _ _ ((rd_T48 t189 x44_2).f5) _ _ t211 true _ ?side1 ?side2 ?side3 ?side4 A66.out).mono ?_
                                      (case side1 => repeat (first | exact ((Kd.R_reads' (by (with_reducible repeat (first | apply Kd.R_alloc | apply Go.Proofs.Ytnjbobboookfmaa.Ext.R_bytes | apply Kd.R_drewN | apply Kd.R_drew)); exact HL194_5.out)).2.2) | (with_reducible refine Kd.C_alloc ?_ _) | (with_reducible refine Kd.C_drewN ?_ _) | (with_reducible refine Kd.C_drew ?_)))
                                      (case side2 => exact HC194_5.out)
                                      (case side3 => repeat (first | exact (Kd.R_reads' HO213.out).2.2 | (with_reducible refine Kd.C_alloc ?_ _) | (with_reducible refine Kd.C_drewN ?_ _) | (with_reducible refine Kd.C_drew ?_)))
                                      (case side4 => exact (Kd.R_reads' HO213.out).2.1)
                                      rintro e w' ⟨rfl, ⟨nd, rfl⟩⟩
                                      refine ⟨_, rfl, ?_⟩
                                      refine hK.out _ _ ⟨(blk_cell BK195.out 0).trans rfl, (blk_cell BK195.out 1).trans rfl, (blk_cell BK195.out 2).trans rfl, (blk_cell BK195.out 3).trans rfl, (blk_cell BK195.out 4).trans rfl, (blk_cell BK195.out 5).trans rfl⟩ (fun hHeld => ?_)
                                      clear hK K
                                      refine norm_ (a' := ?_) ?_ ?_
                                      rotate_left
                                      · show Act.put _ (some 108) _ = _
                                        simp only [Act.put, List.setIfInBounds_toArray, List.set_cons_zero, List.set_cons_succ, i64_w, i32_w]
                                        rfl
                                      refine pure_ (i := 37) (N := some 109) (v := ?_) (a' := ?_) #[true, true, true, true, true, true, true, true, true, true, true, true, true, true, true, true, true, true, true, true, true, true, true, true, true, true, true, true, true, true, true, true, true, true, true, true, true, true, false] rfl rfl (any_of HT_.out (by kernel_rfl)) (fun _ _ _ h => h) (Or.inl ⟨by rfl, ?_⟩) ?_ ?_
                                      rotate_left
                                      · intro w'
                                        go_simp
                                        with_reducible rfl
                                      rotate_left
                                      · simp only [Act.put, List.setIfInBounds_toArray, List.set_cons_zero, List.set_cons_succ, i64_w, i32_w]
                                        rfl
                                      refine pure_ (i := 38) (N := some 110) (v := ?_) (a' := ?_) #[true, true, true, true, true, true, true, true, true, true, true, true, true, true, true, true, true, true, true, true, true, true, true, true, true, true, true, true, true, true, true, true, true, true, true, true, true, true, true] rfl rfl (any_of HT_.out (by kernel_rfl)) (fun _ _ _ h => h) (Or.inl ⟨by rfl, ?_⟩) ?_ ?_
                                      rotate_left
                                      · intro w'
                                        go_simp
                                        with_reducible rfl
                                      rotate_left
                                      · simp only [Act.put, List.setIfInBounds_toArray, List.set_cons_zero, List.set_cons_succ, i64_w, i32_w]
                                        rfl
                                      refine done_ (done_of HT_.out (by kernel_rfl)) ?_
                                      try go_wp2
                                      go_roundg k2
                                      case measure => have := HJ6.out; have := HK2.out; omega
                                      case rel => exact ⟨(wrap64 (x44_2 + 1)), (by first | rfl | (simp; done) | (simp [*]; done)), H', ⟨by have := HJ6.out; have := HK2.out; omega⟩, ⟨by (with_reducible repeat (first | apply Kd.S_alloc | apply Go.Proofs.Ytnjbobboookfmaa.Ext.R_bytes | apply Kd.S_drewN | apply Kd.S_drew)); exact Kd.S_mono HO_42.out (fun _ hk => trivial)⟩, ⟨by repeat (first | (with_reducible first | exact HB.out | apply below_alloc | apply Go.Proofs.Ytnjbobboookfmaa.Ext.below_bytes | apply pw_below_drewN | apply below_drew1 | refine below_set ?_ GE195.out) | exact HB.out)⟩⟩
                                    · replace c67 := Bool.eq_false_iff.mpr c67
                                      subst c67
                                      have H1 : (none) = some r := by rw [if_neg (show ¬ (false = true) by decide)] at H; exact H
                                      clear H
                                      have H := H1
                                      clear H1
                                      exact absurd H (by simp)
                                · rw [if_neg c63] at H
                                  exact absurd H (by simp)
                            · rw [if_neg c60] at H
                              exact absurd H (by simp)
                      · rw [if_neg c21] at H
                        exact absurd H (by simp)
                    · rw [if_neg c20] at H
                      exact absurd H (by simp)
                  · rw [if_neg c19] at H
                    have c19b0 : decide (x44_2 < (t189.length : Int)) = false := decide_eq_false c19
                    (try (have c19b90 := c19b0; simp only [hl194_5] at c19b90))
                    clear c19
                    obtain rfl := Option.some.inj H
                    go_wp2
                    go_ret
                    exact ⟨by first | rfl | (simp [errW_none, errW_some] <;> rfl) | (simp [*, errW_none, errW_some] <;> rfl), by repeat (first | (with_reducible first | exact HB.out | apply below_alloc | apply Go.Proofs.Ytnjbobboookfmaa.Ext.below_bytes | apply pw_below_drewN | apply below_drew1) | exact HB.out)⟩
      · rw [if_neg c5] at H
        exact absurd H (by simp)

/-- THE ONE PURE STATEMENT of laws_FnParams: yours. -/
def laws_FnParams.Pure : Prop := ∀ (l0 : List Int) (a1 : Int), l0.length ≤ maxLen → l0.length * 8 ≤ 140737488351232 → (∀ x ∈ l0, (Lit.int .i64 x).wf = true) → (Lit.int .i64 a1).wf = true → ∃ k, laws_FnParams.f k l0 a1 = some true
theorem laws_FnParams.walk (P : laws_FnParams.Pure) (a0 : Option Addr) (len0 cap0 : Nat) (z0 : List Int) (a1 : Int) (w : World) (w0 : (a0 = none ∧ len0 = 0 ∧ cap0 = 0 ∧ z0 = []) ∨ ∃ x, a0 = some x ∧ len0 ≤ cap0 ∧ cap0 ≤ maxLen ∧ z0.length = cap0 ∧ (∀ i, i < z0.length → w.cell? (x.add i) = some (.int .i64 (z0.getD i 0))) ∧ ∀ n ∈ z0, (Lit.int .i64 n).wf = true) (y0 : len0 * 8 ≤ 140737488351232) (w1 : (Lit.int .i64 a1).wf = true) :
    Calls Try.prog 4 #[.slice a0 len0 cap0, .int .i64 a1] w fun e w' => e = .returned (.bool true) ∧ Below w.heap.size w w' := by
  obtain ⟨l0, rfl, hr0, hm0, hw0, hc0⟩ := ReadsInt.ofRowC w0
  obtain ⟨k, h⟩ := P l0 a1 hm0 y0 hw0 w1
  refine (laws_FnParams.calls k _ _ l0 a1 true w (Kd.C_of_reads (d := (0 : Int)) (h1 := fun _ => rfl) hr0) hc0 h).mono ?_
  rintro e w' ⟨rfl, hd⟩
  exact ⟨rfl, hd⟩

end Go.Proofs.Ytnjbobboookfmaa.PE
