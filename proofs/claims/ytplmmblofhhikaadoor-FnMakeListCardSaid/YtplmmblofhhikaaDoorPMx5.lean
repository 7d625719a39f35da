-- Written by wip/pp.py, a program of this session, out of the translation. Not trusted: Lean checks it.
import Derived.Test.YtplmmblofhhikaaDoorPMx0
import Derived.Test.YtplmmblofhhikaaDoorPMx2
import Derived.Test.YtplmmblofhhikaaDoorPMx4
namespace Go.Proofs.YtplmmblofhhikaaDoor.PM
open Go.RowKit Go.Proofs.YtplmmblofhhikaaDoor.Or Go.Proofs.YtplmmblofhhikaaDoorW.PrintWords Go.Proofs.YtplmmblofhhikaaDoorW.PrintLast Go.Proofs.YtplmmblofhhikaaDoorW.PrintMore
attribute [local go_sem] max2_int min2_int max_two min_two max_three min_three max_four min_four   -- for this text's walks alone
attribute [local go_sem] Ext.wrap64_mod256 Ext.wrap64_mod32 Ext.i64_mod256 Ext.i64_mod32 Ext.i64_u8 Ext.w64_u8 Ext.i64_u32 Ext.w64_u32 
attribute [-simp] List.drop_one List.length_drop   -- a list that is cut keeps its form
set_option linter.unusedVariables false
set_option linter.unusedSimpArgs false

/-! ### xansi_NewStyle: function 111 -/
def xansi_NewStyle.l0 : Nat → List ByteArray → List Int → Int → Int → Option (List ByteArray)
  | 0, _, _, _, _ => none
  | k + 1, x3, x15, x16, x17 => if x17 < x16 then (if 0 ≤ x17 then (if x17 < (x15.length : Int) then ((xansi_attrStrings.f (rd x15 x17)).bind fun bt176 => (if bt176.2 = true then (if x3.length < 8796093022208 then (xansi_NewStyle.l0 k (x3 ++ [bt176.1]) x15 x16 (wrap64 (x17 + 1))) else (none)) else (if (rd x15 x17) < 0 then ((strconv_Itoa.f 0).bind fun t181 => (if x3.length < 8796093022208 then (xansi_NewStyle.l0 k (x3 ++ [t181]) x15 x16 (wrap64 (x17 + 1))) else (none))) else ((strconv_Itoa.f (rd x15 x17)).bind fun t185 => (if x3.length < 8796093022208 then (xansi_NewStyle.l0 k (x3 ++ [t185]) x15 x16 (wrap64 (x17 + 1))) else (none)))))) else (none)) else (none)) else (some x3)
def xansi_NewStyle.f (k : Nat) (l0 : List Int) : Option (List ByteArray) := if (l0.length : Int) = 0 then (some (([] : List ByteArray))) else (if 0 ≤ (l0.length : Int) then (if ((l0.length : Int) : Int).toNat ≤ 17592186044416 then (xansi_NewStyle.l0 k (([] : List ByteArray)) l0 (l0.length : Int) 0) else (none)) else (none))
theorem xansi_NewStyle.mono_l : ∀ k, (∀ y0 y1 y2 y3, LeO (xansi_NewStyle.l0 k y0 y1 y2 y3) (xansi_NewStyle.l0 (k + 1) y0 y1 y2 y3))
  | 0 => fun _ _ _ _ r h => by simp [xansi_NewStyle.l0] at h
  | k + 1 => by
    have ih0 := xansi_NewStyle.mono_l k
    · intro y0 y1 y2 y3
      unfold xansi_NewStyle.l0
      repeat' first
      | (with_reducible exact ih0 _ _ _ _)
      | (with_reducible exact LeO.refl _)
      | (with_reducible exact LeO.none _)
      | (with_reducible refine LeO.ite ?_ ?_)
      | (with_reducible refine LeO.bind ?_ (fun _ => ?_))
      | exact ih0 _ _ _ _
      | exact LeO.none _
      | refine LeO.ite ?_ ?_
      | refine LeO.bind ?_ (fun _ => ?_)
theorem xansi_NewStyle.mono : ∀ a0 k, LeO (xansi_NewStyle.f k a0) (xansi_NewStyle.f (k + 1) a0) := by
  intro a0 k
  have ih0 := xansi_NewStyle.mono_l k
  unfold xansi_NewStyle.f
  repeat' first
      | (with_reducible exact ih0 _ _ _ _)
      | (with_reducible exact LeO.refl _)
      | (with_reducible exact LeO.none _)
      | (with_reducible refine LeO.ite ?_ ?_)
      | (with_reducible refine LeO.bind ?_ (fun _ => ?_))
      | exact ih0 _ _ _ _
      | exact LeO.none _
      | refine LeO.ite ?_ ?_
      | refine LeO.bind ?_ (fun _ => ?_)
set_option maxHeartbeats 8000000 in
set_option maxRecDepth 100000 in
theorem xansi_NewStyle.calls (k : Nat) (A0 : Option Addr) (c0 : Nat) (l0 : List Int) (r : List ByteArray) (w : World) (hr0 : Kd.C (Kd.int .i64) w A0 l0.length l0) (hc0 : l0.length ≤ c0) (hLD : Laid w) (h : xansi_NewStyle.f k l0 = some r) :
    Calls Tryd.prog 111 #[.slice A0 l0.length c0] w fun e w' => ∃ v0_ : Value, e = .returned (v0_) ∧ Kd.R Kd.string 9 w' w.heap.size (fun _ => True) v0_ r ∧ Below w.heap.size w w' := by
  have HLD := Aside0.mk hLD
  clear hLD
  have HR0 := Aside0.mk hr0
  have HC0 := Aside0.mk hc0
  clear hr0 hc0
  have HB := Aside0.mk (Below.refl w.heap.size w)
  have H : (if (l0.length : Int) = 0 then (some (([] : List ByteArray))) else (if 0 ≤ (l0.length : Int) then (if ((l0.length : Int) : Int).toNat ≤ 17592186044416 then (xansi_NewStyle.l0 k (([] : List ByteArray)) l0 (l0.length : Int) 0) else (none)) else (none))) = some r := h
  clear h
  by_cases c2 : (l0.length : Int) = 0
  · rw [if_pos c2] at H
    have c2b0 : ((l0.length : Int) == 0) = true := beq_iff_eq.mpr c2
    have c2b1 : ((l0.length : Int) != 0) = false := bne_eq_false_iff_eq.mpr c2
    clear c2
    obtain ⟨y169, hy169⟩ : ∃ y_ : List ByteArray, y_ = (([] : List ByteArray)) := ⟨_, rfl⟩
    replace H : (some y169) = some r := by first | (rw [hy169]; with_reducible exact H) | (have H2_ := (Option.bind_some _ _).symm.trans H; rw [hy169]; with_reducible exact H2_) | (have H2_ := (Option.bind_some _ _).symm.trans H; with_reducible exact H2_) | with_reducible exact H | (rw [hy169]; exact H) | exact H
    have Ny169 := Aside0.mk hy169
    clear hy169
    obtain rfl := Option.some.inj H
    go_enter Tryd.func111, Tryd.ntmps111
    go_wp2_with (first | ((with_reducible refine gate_dst (N := 11) rfl ?_); refine Kd.R_lit Kd.string _ 9 ?hg (N := 11) ?hd (xs := ([] : List ByteArray)) (inner := []) (ok := fun _ => True) (okp := fun _ => True) ?hr ?hp (fun _ hk => hk) trivial (Below.refl _ _) (Nat.le_refl _) (by simp) ?_; (case hd => rfl); (case hg => rfl); (case hr => first | (go_simp; done) | (go_simp; rfl)); (case hp => exact (Reps.none _ _)); intro v170 w3 ho4 hb hg_ hnew_; clear hg_ hnew_; (first | rw [← Ny169.out] at ho4 | (simp only [Int.reduceToNat] at ho4; rw [← Ny169.out] at ho4)); have n0_ := Aside0.mk (Kd.R_lower ho4 (below_size (by repeat (first | (with_reducible first | exact HB.out | apply below_alloc | apply Ext.below_bytes | apply pw_below_drewN | apply below_drew1) | exact HB.out)))); have n1_ := Aside0.mk (below_step (by repeat (first | (with_reducible first | exact HB.out | apply below_alloc | apply Ext.below_bytes | apply pw_below_drewN | apply below_drew1) | exact HB.out)) hb); clear HB; have HO171 := n0_; have HB := n1_; clear n0_ n1_; clear hb ho4))
    go_ret
    exact ⟨_, by first | rfl | (simp [errW_none, errW_some] <;> rfl) | (simp [*, errW_none, errW_some] <;> rfl), by (with_reducible repeat (first | apply Kd.R_alloc | apply Ext.R_bytes | apply Kd.R_drewN | apply Kd.R_drew)); exact HO171.out, by repeat (first | (with_reducible first | exact HB.out | apply below_alloc | apply Ext.below_bytes | apply pw_below_drewN | apply below_drew1) | exact HB.out)⟩
  · rw [if_neg c2] at H
    have c2b0 : ((l0.length : Int) == 0) = false := beq_eq_false_iff_ne.mpr c2
    have c2b1 : ((l0.length : Int) != 0) = true := bne_iff_ne.mpr c2
    have c2b2 : ¬ (l0 = []) := fun h_ => c2 (by rw [h_]; rfl)
    by_cases c5 : 0 ≤ (l0.length : Int)
    · rw [if_pos c5] at H
      have c5b0 := eq_true c5
      have c5b1 : decide (0 ≤ (l0.length : Int)) = true := decide_eq_true c5
      clear c5
      by_cases c6 : ((l0.length : Int) : Int).toNat ≤ 17592186044416
      · rw [if_pos c6] at H
        have c6b0 := eq_true c6
        have c6b1 : decide (((l0.length : Int) : Int).toNat ≤ 17592186044416) = true := decide_eq_true c6
        clear c6
        obtain ⟨y172, hy172⟩ : ∃ y_ : List ByteArray, y_ = (([] : List ByteArray)) := ⟨_, rfl⟩
        replace H : (xansi_NewStyle.l0 k y172 l0 (l0.length : Int) 0) = some r := by first | (rw [hy172]; with_reducible exact H) | (have H2_ := (Option.bind_some _ _).symm.trans H; rw [hy172]; with_reducible exact H2_) | (have H2_ := (Option.bind_some _ _).symm.trans H; with_reducible exact H2_) | with_reducible exact H | (rw [hy172]; exact H) | exact H
        have Ny172 := Aside0.mk hy172
        clear hy172
        have H' := Aside0.mk H
        clear H
        go_enter Tryd.func111, Tryd.ntmps111
        go_wp2_with (first | ((with_reducible refine gate_dst (N := 14) rfl ?_); refine Ext.R_make0 Kd.string _ 9 rfl (N := 14) rfl 103 _ _ rfl (l0.length : Int) rfl rfl Tryd.underlying103 (.string ⟨#[]⟩) 16 info9 rfl (by decide) (by omega) (⟨#[]⟩ : ByteArray) (ok := fun _ => True) (okp := fun _ => True) rfl (fun _ hk => hk) trivial (of_decide_eq_true (by first | (with_reducible assumption) | assumption)) (Nat.le_trans (Nat.mul_le_mul_right _ (of_decide_eq_true (by first | (with_reducible assumption) | assumption) : (l0.length : Int).toNat ≤ 17592186044416)) (by omega)) (Below.refl _ _) (Nat.le_refl _) ?_; intro v173 w7 ho8 hb hg_ hnew_; clear hg_ hnew_; (first | rw [← Ny172.out] at ho8 | (simp only [Int.reduceToNat] at ho8; rw [← Ny172.out] at ho8)); have n0_ := Aside0.mk (Kd.R_lower ho8 (below_size (by repeat (first | (with_reducible first | exact HB.out | apply below_alloc | apply Ext.below_bytes | apply pw_below_drewN | apply below_drew1) | exact HB.out)))); have n1_ := Aside0.mk (below_step (by repeat (first | (with_reducible first | exact HB.out | apply below_alloc | apply Ext.below_bytes | apply pw_below_drewN | apply below_drew1) | exact HB.out)) hb); clear HB; have HO174 := n0_; have HB := n1_; clear n0_ n1_; clear hb ho8))
        go_loopg [3, 17] k (fun kq v3 v17 w' => ∃ (x3_1 : List ByteArray) (x17_1 : Int), v17 = .int .i64 x17_1 ∧ Aside0 (xansi_NewStyle.l0 kq x3_1 l0 (l0.length : Int) x17_1 = some r) ∧ Aside0 (kq ≤ k) ∧ Aside0 (Kd.R Kd.string 9 w' w.heap.size (fun _ => True) v3 x3_1) ∧ Aside0 (Below w.heap.size w w'))
        case atStart => exact ⟨(y172), (0), (by first | rfl | (simp; done) | (simp [*]; done)), H', ⟨Nat.le_refl _⟩, ⟨by (with_reducible repeat (first | apply Kd.R_alloc | apply Ext.R_bytes | apply Kd.R_drewN | apply Kd.R_drew)); exact HO174.out⟩, ⟨by repeat (first | (with_reducible first | exact HB.out | apply below_alloc | apply Ext.below_bytes | apply pw_below_drewN | apply below_drew1) | exact HB.out)⟩⟩
        case round =>
          clear H'
          try clear c1
          try clear c2
          try clear c2b0
          try clear c2b1
          try clear c2b2
          try clear p2
          try clear c5
          try clear c5b0
          try clear c5b1
          try clear c6
          try clear c6b0
          try clear c6b1
          obtain ⟨x3_1, x17_1, rfl, HA, HK1, HO_3, HB⟩ := hrel
          cases gk with
          | zero => exact absurd HA.out (by simp [xansi_NewStyle.l0])
          | succ k1 =>
            have H := HA.out
            clear HA
            simp only [xansi_NewStyle.l0] at H
            by_cases c9 : x17_1 < (l0.length : Int)
            · rw [if_pos c9] at H
              have c9b0 : decide (x17_1 < (l0.length : Int)) = true := decide_eq_true c9
              clear c9
              by_cases c10 : 0 ≤ x17_1
              · rw [if_pos c10] at H
                have c10b0 : decide (0 ≤ x17_1) = true := decide_eq_true c10
                clear c10
                by_cases c11 : x17_1 < (l0.length : Int)
                · rw [if_pos c11] at H
                  have c11b0 : decide (x17_1 < (l0.length : Int)) = true := decide_eq_true c11
                  clear c11
                  replace H := Option.bind_eq_some_iff.mp H
                  obtain ⟨⟨t176, t177⟩, A120, H⟩ := H
                  replace H : (if t177 = true then (if x3_1.length < 8796093022208 then (xansi_NewStyle.l0 k1 (x3_1 ++ [t176]) l0 (l0.length : Int) (wrap64 (x17_1 + 1))) else (none)) else (if (rd l0 x17_1) < 0 then ((strconv_Itoa.f 0).bind fun t181 => (if x3_1.length < 8796093022208 then (xansi_NewStyle.l0 k1 (x3_1 ++ [t181]) l0 (l0.length : Int) (wrap64 (x17_1 + 1))) else (none))) else ((strconv_Itoa.f (rd l0 x17_1)).bind fun t185 => (if x3_1.length < 8796093022208 then (xansi_NewStyle.l0 k1 (x3_1 ++ [t185]) l0 (l0.length : Int) (wrap64 (x17_1 + 1))) else (none))))) = some r := H
                  have A12 := Aside0.mk A120
                  clear A120
                  by_cases c13 : t177 = true
                  · subst c13
                    have H1 : (if x3_1.length < 8796093022208 then (xansi_NewStyle.l0 k1 (x3_1 ++ [t176]) l0 (l0.length : Int) (wrap64 (x17_1 + 1))) else (none)) = some r := by rw [if_pos rfl] at H; exact H
                    clear H
                    have H := H1
                    clear H1
                    by_cases c14 : x3_1.length < 8796093022208
                    · rw [if_pos c14] at H
                      have LMc14 := Aside0.mk c14
                      clear c14
                      obtain ⟨y178, hy178⟩ : ∃ y_ : List ByteArray, y_ = (x3_1 ++ [t176]) := ⟨_, rfl⟩
                      replace H : (xansi_NewStyle.l0 k1 y178 l0 (l0.length : Int) (wrap64 (x17_1 + 1))) = some r := by first | (rw [hy178]; with_reducible exact H) | (have H2_ := (Option.bind_some _ _).symm.trans H; rw [hy178]; with_reducible exact H2_) | (have H2_ := (Option.bind_some _ _).symm.trans H; with_reducible exact H2_) | with_reducible exact H | (rw [hy178]; exact H) | exact H
                      have Ny178 := Aside0.mk hy178
                      clear hy178
                      have H' := Aside0.mk H
                      clear H
                      have p175 : 0 ≤ (x17_1 : Int) := of_decide_eq_true (by first | (with_reducible assumption) | assumption)
                      have q175 : x17_1 < (l0.length : Int) := of_decide_eq_true (by first | (with_reducible assumption) | assumption)
                      obtain ⟨ad175, e175, hx175_0⟩ := Kd.at_int HR0.out x17_1 p175 q175
                      cases e175
                      replace hx175_0 := (HB.out.cell (World.block_lt_of_cell? w _ hx175_0)).trans hx175_0
                      replace p175 := eq_true p175
                      replace q175 := eq_true q175
                      go_wp2_with (first | ((with_reducible refine gate_callee (f := 121) rfl ?_); refine goesL_ (some 23) rfl rfl Tryd.func121 (by kernel_rfl) rfl #[.int .i64 (rd l0 x17_1)] rfl (by (try simp only [List.map_toArray, List.map_cons, List.map_nil]); first | done | rfl | (simp only [List.length_drop, List.length_take]; rfl) | (simp [Act.eval, *]; done)) ?_; (with_reducible refine (xansi_attrStrings.calls (rd l0 x17_1) t176 true _ A12.out).mono ?_); rintro e w' ⟨rfl, ⟨nd, rfl⟩⟩; refine ⟨_, rfl, ?_⟩) | ((with_reducible refine gate_builtin (b := .append) (xs := #[.tmp 27, .tmp 29]) rfl ?_); at_builtin; refine Kd.R_append Kd.string (w0 := w) w.heap.size rfl (.tmp 27) (.tmp 29) 103 9 (.string ⟨#[]⟩) 16 rfl Tryd.underlying103 info9 rfl (by decide) (by omega) u3 x3_1 t176 [.string t176] (fun _ => True) (fun _ => False) rfl rfl ?aP (fun _ hk => hk.elim) ?aF ?aO ?aB ?aS ?aL ?_; (case aP => exact rfl); (case aB => exact (by repeat (first | (with_reducible first | exact HB.out | apply below_alloc | apply Ext.below_bytes | apply pw_below_drewN | apply below_drew1) | exact HB.out))); (case aF => exact (fun _ _ => trivial)); (case aO => exact (by (with_reducible repeat (first | apply Kd.R_alloc | apply Ext.R_bytes | apply Kd.R_drewN | apply Kd.R_drew)); exact HO_3.out)); (case aS => exact (below_size (by repeat (first | (with_reducible first | exact HB.out | apply below_alloc | apply Ext.below_bytes | apply pw_below_drewN | apply below_drew1) | exact HB.out)))); (case aL => have := LMc14.out; omega); intro v179 w15 ho hb hg hat; rw [← Ny178.out] at ho; have n0_ := Aside0.mk (hb); have n1_ := Aside0.mk (ho); clear HB; clear HO_3; have HB := n0_; have HO180 := n1_; clear n0_ n1_; clear ho hb hg hat))
                      go_roundg k1
                      case measure => have := HK1.out; omega
                      case rel => exact ⟨(y178), (wrap64 (x17_1 + 1)), (by first | rfl | (simp; done) | (simp [*]; done)), H', ⟨by have := HK1.out; omega⟩, ⟨by (with_reducible repeat (first | apply Kd.R_alloc | apply Ext.R_bytes | apply Kd.R_drewN | apply Kd.R_drew)); exact HO180.out⟩, ⟨by repeat (first | (with_reducible first | exact HB.out | apply below_alloc | apply Ext.below_bytes | apply pw_below_drewN | apply below_drew1) | exact HB.out)⟩⟩
                    · rw [if_neg c14] at H
                      exact absurd H (by simp)
                  · replace c13 := Bool.eq_false_iff.mpr c13
                    subst c13
                    have H1 : (if (rd l0 x17_1) < 0 then ((strconv_Itoa.f 0).bind fun t181 => (if x3_1.length < 8796093022208 then (xansi_NewStyle.l0 k1 (x3_1 ++ [t181]) l0 (l0.length : Int) (wrap64 (x17_1 + 1))) else (none))) else ((strconv_Itoa.f (rd l0 x17_1)).bind fun t185 => (if x3_1.length < 8796093022208 then (xansi_NewStyle.l0 k1 (x3_1 ++ [t185]) l0 (l0.length : Int) (wrap64 (x17_1 + 1))) else (none)))) = some r := by rw [if_neg (show ¬ (false = true) by decide)] at H; exact H
                    clear H
                    have H := H1
                    clear H1
                    by_cases c16 : (rd l0 x17_1) < 0
                    · rw [if_pos c16] at H
                      have c16b0 : decide ((rd l0 x17_1) < 0) = true := decide_eq_true c16
                      clear c16
                      replace H := Option.bind_eq_some_iff.mp H
                      obtain ⟨t181, A170, H⟩ := H
                      replace H : (if x3_1.length < 8796093022208 then (xansi_NewStyle.l0 k1 (x3_1 ++ [t181]) l0 (l0.length : Int) (wrap64 (x17_1 + 1))) else (none)) = some r := H
                      have A17 := Aside0.mk A170
                      clear A170
                      by_cases c18 : x3_1.length < 8796093022208
                      · rw [if_pos c18] at H
                        have LMc18 := Aside0.mk c18
                        clear c18
                        obtain ⟨y182, hy182⟩ : ∃ y_ : List ByteArray, y_ = (x3_1 ++ [t181]) := ⟨_, rfl⟩
                        replace H : (xansi_NewStyle.l0 k1 y182 l0 (l0.length : Int) (wrap64 (x17_1 + 1))) = some r := by first | (rw [hy182]; with_reducible exact H) | (have H2_ := (Option.bind_some _ _).symm.trans H; rw [hy182]; with_reducible exact H2_) | (have H2_ := (Option.bind_some _ _).symm.trans H; with_reducible exact H2_) | with_reducible exact H | (rw [hy182]; exact H) | exact H
                        have Ny182 := Aside0.mk hy182
                        clear hy182
                        have H' := Aside0.mk H
                        clear H
                        have p175 : 0 ≤ (x17_1 : Int) := of_decide_eq_true (by first | (with_reducible assumption) | assumption)
                        have q175 : x17_1 < (l0.length : Int) := of_decide_eq_true (by first | (with_reducible assumption) | assumption)
                        obtain ⟨ad175, e175, hx175_0⟩ := Kd.at_int HR0.out x17_1 p175 q175
                        cases e175
                        replace hx175_0 := (HB.out.cell (World.block_lt_of_cell? w _ hx175_0)).trans hx175_0
                        replace p175 := eq_true p175
                        replace q175 := eq_true q175
                        go_wp2_with (first | ((with_reducible refine gate_callee (f := 121) rfl ?_); refine goesL_ (some 23) rfl rfl Tryd.func121 (by kernel_rfl) rfl #[.int .i64 (rd l0 x17_1)] rfl (by (try simp only [List.map_toArray, List.map_cons, List.map_nil]); first | done | rfl | (simp only [List.length_drop, List.length_take]; rfl) | (simp [Act.eval, *]; done)) ?_; (with_reducible refine (xansi_attrStrings.calls (rd l0 x17_1) t176 false _ A12.out).mono ?_); rintro e w' ⟨rfl, ⟨nd, rfl⟩⟩; refine ⟨_, rfl, ?_⟩) | ((with_reducible refine gate_callee (f := 109) rfl ?_); refine goesL_ (some 35) rfl rfl Tryd.func109 (by kernel_rfl) rfl #[.int .i64 0] rfl (by (try simp only [List.map_toArray, List.map_cons, List.map_nil]); first | done | rfl | (simp only [List.length_drop, List.length_take]; rfl) | (simp [Act.eval, *]; done)) ?_; (with_reducible refine (strconv_Itoa.calls 0 t181 _ ?side1 A17.out).mono ?_); (case side1 => exact HLD.out.below (by repeat (first | (with_reducible first | exact HB.out | apply below_alloc | apply Ext.below_bytes | apply pw_below_drewN | apply below_drew1) | exact HB.out))); rintro e w19 ⟨rfl, hb⟩; refine ⟨_, rfl, ?_⟩; have n0_ := Aside0.mk (Kd.R_below (by (with_reducible repeat (first | apply Kd.R_alloc | apply Ext.R_bytes | apply Kd.R_drewN | apply Kd.R_drew)); exact HO_3.out) hb); have n1_ := Aside0.mk (below_step (by repeat (first | (with_reducible first | exact HB.out | apply below_alloc | apply Ext.below_bytes | apply pw_below_drewN | apply below_drew1) | exact HB.out)) hb); clear HO_3; clear HB; have HO_3 := n0_; have HB := n1_; clear n0_ n1_; (try clear hb); (try clear hb2); (try clear hk); (try clear hi)) | ((with_reducible refine gate_builtin (b := .append) (xs := #[.tmp 33, .tmp 36]) rfl ?_); at_builtin; refine Kd.R_append Kd.string (w0 := w) w.heap.size rfl (.tmp 33) (.tmp 36) 103 9 (.string ⟨#[]⟩) 16 rfl Tryd.underlying103 info9 rfl (by decide) (by omega) u3 x3_1 t181 [.string t181] (fun _ => True) (fun _ => False) rfl rfl ?aP (fun _ hk => hk.elim) ?aF ?aO ?aB ?aS ?aL ?_; (case aP => exact rfl); (case aB => exact (by repeat (first | (with_reducible first | exact HB.out | apply below_alloc | apply Ext.below_bytes | apply pw_below_drewN | apply below_drew1) | exact HB.out))); (case aF => exact (fun _ _ => trivial)); (case aO => exact (by (with_reducible repeat (first | apply Kd.R_alloc | apply Ext.R_bytes | apply Kd.R_drewN | apply Kd.R_drew)); exact HO_3.out)); (case aS => exact (below_size (by repeat (first | (with_reducible first | exact HB.out | apply below_alloc | apply Ext.below_bytes | apply pw_below_drewN | apply below_drew1) | exact HB.out)))); (case aL => have := LMc18.out; omega); intro v183 w20 ho hb hg hat; rw [← Ny182.out] at ho; have n0_ := Aside0.mk (hb); have n1_ := Aside0.mk (ho); clear HB; clear HO_3; have HB := n0_; have HO184 := n1_; clear n0_ n1_; clear ho hb hg hat))
                        go_roundg k1
                        case measure => have := HK1.out; omega
                        case rel => exact ⟨(y182), (wrap64 (x17_1 + 1)), (by first | rfl | (simp; done) | (simp [*]; done)), H', ⟨by have := HK1.out; omega⟩, ⟨by (with_reducible repeat (first | apply Kd.R_alloc | apply Ext.R_bytes | apply Kd.R_drewN | apply Kd.R_drew)); exact HO184.out⟩, ⟨by repeat (first | (with_reducible first | exact HB.out | apply below_alloc | apply Ext.below_bytes | apply pw_below_drewN | apply below_drew1) | exact HB.out)⟩⟩
                      · rw [if_neg c18] at H
                        exact absurd H (by simp)
                    · rw [if_neg c16] at H
                      have c16b0 : decide ((rd l0 x17_1) < 0) = false := decide_eq_false c16
                      clear c16
                      replace H := Option.bind_eq_some_iff.mp H
                      obtain ⟨t185, A210, H⟩ := H
                      replace H : (if x3_1.length < 8796093022208 then (xansi_NewStyle.l0 k1 (x3_1 ++ [t185]) l0 (l0.length : Int) (wrap64 (x17_1 + 1))) else (none)) = some r := H
                      have A21 := Aside0.mk A210
                      clear A210
                      by_cases c22 : x3_1.length < 8796093022208
                      · rw [if_pos c22] at H
                        have LMc22 := Aside0.mk c22
                        clear c22
                        obtain ⟨y186, hy186⟩ : ∃ y_ : List ByteArray, y_ = (x3_1 ++ [t185]) := ⟨_, rfl⟩
                        replace H : (xansi_NewStyle.l0 k1 y186 l0 (l0.length : Int) (wrap64 (x17_1 + 1))) = some r := by first | (rw [hy186]; with_reducible exact H) | (have H2_ := (Option.bind_some _ _).symm.trans H; rw [hy186]; with_reducible exact H2_) | (have H2_ := (Option.bind_some _ _).symm.trans H; with_reducible exact H2_) | with_reducible exact H | (rw [hy186]; exact H) | exact H
                        have Ny186 := Aside0.mk hy186
                        clear hy186
                        have H' := Aside0.mk H
                        clear H
                        have p175 : 0 ≤ (x17_1 : Int) := of_decide_eq_true (by first | (with_reducible assumption) | assumption)
                        have q175 : x17_1 < (l0.length : Int) := of_decide_eq_true (by first | (with_reducible assumption) | assumption)
                        obtain ⟨ad175, e175, hx175_0⟩ := Kd.at_int HR0.out x17_1 p175 q175
                        cases e175
                        replace hx175_0 := (HB.out.cell (World.block_lt_of_cell? w _ hx175_0)).trans hx175_0
                        replace p175 := eq_true p175
                        replace q175 := eq_true q175
                        go_wp2_with (first | ((with_reducible refine gate_callee (f := 121) rfl ?_); refine goesL_ (some 23) rfl rfl Tryd.func121 (by kernel_rfl) rfl #[.int .i64 (rd l0 x17_1)] rfl (by (try simp only [List.map_toArray, List.map_cons, List.map_nil]); first | done | rfl | (simp only [List.length_drop, List.length_take]; rfl) | (simp [Act.eval, *]; done)) ?_; (with_reducible refine (xansi_attrStrings.calls (rd l0 x17_1) t176 false _ A12.out).mono ?_); rintro e w' ⟨rfl, ⟨nd, rfl⟩⟩; refine ⟨_, rfl, ?_⟩) | ((with_reducible refine gate_callee (f := 109) rfl ?_); refine goesL_ (some 35) rfl rfl Tryd.func109 (by kernel_rfl) rfl #[.int .i64 (rd l0 x17_1)] rfl (by (try simp only [List.map_toArray, List.map_cons, List.map_nil]); first | done | rfl | (simp only [List.length_drop, List.length_take]; rfl) | (simp [Act.eval, *]; done)) ?_; (with_reducible refine (strconv_Itoa.calls (rd l0 x17_1) t185 _ ?side1 A21.out).mono ?_); (case side1 => exact HLD.out.below (by repeat (first | (with_reducible first | exact HB.out | apply below_alloc | apply Ext.below_bytes | apply pw_below_drewN | apply below_drew1) | exact HB.out))); rintro e w23 ⟨rfl, hb⟩; refine ⟨_, rfl, ?_⟩; have n0_ := Aside0.mk (Kd.R_below (by (with_reducible repeat (first | apply Kd.R_alloc | apply Ext.R_bytes | apply Kd.R_drewN | apply Kd.R_drew)); exact HO_3.out) hb); have n1_ := Aside0.mk (below_step (by repeat (first | (with_reducible first | exact HB.out | apply below_alloc | apply Ext.below_bytes | apply pw_below_drewN | apply below_drew1) | exact HB.out)) hb); clear HO_3; clear HB; have HO_3 := n0_; have HB := n1_; clear n0_ n1_; (try clear hb); (try clear hb2); (try clear hk); (try clear hi)) | ((with_reducible refine gate_builtin (b := .append) (xs := #[.tmp 33, .tmp 36]) rfl ?_); at_builtin; refine Kd.R_append Kd.string (w0 := w) w.heap.size rfl (.tmp 33) (.tmp 36) 103 9 (.string ⟨#[]⟩) 16 rfl Tryd.underlying103 info9 rfl (by decide) (by omega) u3 x3_1 t185 [.string t185] (fun _ => True) (fun _ => False) rfl rfl ?aP (fun _ hk => hk.elim) ?aF ?aO ?aB ?aS ?aL ?_; (case aP => exact rfl); (case aB => exact (by repeat (first | (with_reducible first | exact HB.out | apply below_alloc | apply Ext.below_bytes | apply pw_below_drewN | apply below_drew1) | exact HB.out))); (case aF => exact (fun _ _ => trivial)); (case aO => exact (by (with_reducible repeat (first | apply Kd.R_alloc | apply Ext.R_bytes | apply Kd.R_drewN | apply Kd.R_drew)); exact HO_3.out)); (case aS => exact (below_size (by repeat (first | (with_reducible first | exact HB.out | apply below_alloc | apply Ext.below_bytes | apply pw_below_drewN | apply below_drew1) | exact HB.out)))); (case aL => have := LMc22.out; omega); intro v187 w24 ho hb hg hat; rw [← Ny186.out] at ho; have n0_ := Aside0.mk (hb); have n1_ := Aside0.mk (ho); clear HB; clear HO_3; have HB := n0_; have HO188 := n1_; clear n0_ n1_; clear ho hb hg hat))
                        go_roundg k1
                        case measure => have := HK1.out; omega
                        case rel => exact ⟨(y186), (wrap64 (x17_1 + 1)), (by first | rfl | (simp; done) | (simp [*]; done)), H', ⟨by have := HK1.out; omega⟩, ⟨by (with_reducible repeat (first | apply Kd.R_alloc | apply Ext.R_bytes | apply Kd.R_drewN | apply Kd.R_drew)); exact HO188.out⟩, ⟨by repeat (first | (with_reducible first | exact HB.out | apply below_alloc | apply Ext.below_bytes | apply pw_below_drewN | apply below_drew1) | exact HB.out)⟩⟩
                      · rw [if_neg c22] at H
                        exact absurd H (by simp)
                · rw [if_neg c11] at H
                  exact absurd H (by simp)
              · rw [if_neg c10] at H
                exact absurd H (by simp)
            · rw [if_neg c9] at H
              have c9b0 : decide (x17_1 < (l0.length : Int)) = false := decide_eq_false c9
              clear c9
              obtain rfl := Option.some.inj H
              go_wp2
              go_ret
              exact ⟨_, by first | rfl | (simp [errW_none, errW_some] <;> rfl) | (simp [*, errW_none, errW_some] <;> rfl), by (with_reducible repeat (first | apply Kd.R_alloc | apply Ext.R_bytes | apply Kd.R_drewN | apply Kd.R_drew)); exact HO_3.out, by repeat (first | (with_reducible first | exact HB.out | apply below_alloc | apply Ext.below_bytes | apply pw_below_drewN | apply below_drew1) | exact HB.out)⟩
      · rw [if_neg c6] at H
        exact absurd H (by simp)
    · rw [if_neg c5] at H
      exact absurd H (by simp)

/-! ### xansi_Style_String: function 112 -/
def xansi_Style_String.f (k : Nat) (l0 : List ByteArray) : Option (ByteArray) := if (l0.length : Int) = 0 then (some (⟨#[27, 91, 109]⟩ : ByteArray)) else ((xansi_zzJoin.f k l0 (⟨#[59]⟩ : ByteArray)).bind fun t189 => (if 2 + t189.size ≤ 9223372036854775807 then (if 2 + t189.size + 1 ≤ 9223372036854775807 then (some (((⟨#[27, 91]⟩ : ByteArray) ++ t189) ++ (⟨#[109]⟩ : ByteArray))) else (none)) else (none)))
theorem xansi_Style_String.mono : ∀ a0 k, LeO (xansi_Style_String.f k a0) (xansi_Style_String.f (k + 1) a0) := by
  intro a0 k
  unfold xansi_Style_String.f
  repeat' first
      | (with_reducible exact xansi_zzJoin.mono _ _ _)
      | (with_reducible exact LeO.refl _)
      | (with_reducible exact LeO.none _)
      | (with_reducible refine LeO.ite ?_ ?_)
      | (with_reducible refine LeO.bind ?_ (fun _ => ?_))
      | exact xansi_zzJoin.mono _ _ _
      | exact LeO.none _
      | refine LeO.ite ?_ ?_
      | refine LeO.bind ?_ (fun _ => ?_)
set_option maxHeartbeats 8000000 in
set_option maxRecDepth 100000 in
theorem xansi_Style_String.calls (k : Nat) (A0 : Option Addr) (c0 : Nat) (l0 : List ByteArray) (r : ByteArray) (w : World) (hr0 : Kd.C Kd.string w A0 l0.length l0) (hc0 : l0.length ≤ c0) (h : xansi_Style_String.f k l0 = some r) :
    Calls Tryd.prog 112 #[.slice A0 l0.length c0] w fun e w' => e = .returned (.string r) ∧ Drawn0 w w' := by
  have HR0 := Aside0.mk hr0
  have HC0 := Aside0.mk hc0
  clear hr0 hc0
  have H : (if (l0.length : Int) = 0 then (some (⟨#[27, 91, 109]⟩ : ByteArray)) else ((xansi_zzJoin.f k l0 (⟨#[59]⟩ : ByteArray)).bind fun t189 => (if 2 + t189.size ≤ 9223372036854775807 then (if 2 + t189.size + 1 ≤ 9223372036854775807 then (some (((⟨#[27, 91]⟩ : ByteArray) ++ t189) ++ (⟨#[109]⟩ : ByteArray))) else (none)) else (none)))) = some r := h
  clear h
  by_cases c2 : (l0.length : Int) = 0
  · rw [if_pos c2] at H
    have c2b0 : ((l0.length : Int) == 0) = true := beq_iff_eq.mpr c2
    have c2b1 : ((l0.length : Int) != 0) = false := bne_eq_false_iff_eq.mpr c2
    clear c2
    obtain rfl := Option.some.inj H
    go_enter Tryd.func112, Tryd.ntmps112
    go_wp2
    go_ret
    exact ⟨by first | rfl | (simp; done) | (simp [*]; done), by repeat (first | exact Drawn0.refl _ | apply Drawn0.step)⟩
  · rw [if_neg c2] at H
    have c2b0 : ((l0.length : Int) == 0) = false := beq_eq_false_iff_ne.mpr c2
    have c2b1 : ((l0.length : Int) != 0) = true := bne_iff_ne.mpr c2
    have c2b2 : ¬ (l0 = []) := fun h_ => c2 (by rw [h_]; rfl)
    replace H := Option.bind_eq_some_iff.mp H
    obtain ⟨t189, A30, H⟩ := H
    replace H : (if 2 + t189.size ≤ 9223372036854775807 then (if 2 + t189.size + 1 ≤ 9223372036854775807 then (some (((⟨#[27, 91]⟩ : ByteArray) ++ t189) ++ (⟨#[109]⟩ : ByteArray))) else (none)) else (none)) = some r := H
    have A3 := Aside0.mk A30
    clear A30
    by_cases c4 : 2 + t189.size ≤ 9223372036854775807
    · rw [if_pos c4] at H
      have c4b0 := eq_true c4
      have c4b1 : decide (2 + t189.size ≤ 9223372036854775807) = true := decide_eq_true c4
      try have c4b2 : (9223372036854775807 < 2 + t189.size) = False := eq_false (Nat.not_lt.2 c4)
      by_cases c5 : 2 + t189.size + 1 ≤ 9223372036854775807
      · rw [if_pos c5] at H
        have c5b0 := eq_true c5
        have c5b1 : decide (2 + t189.size + 1 ≤ 9223372036854775807) = true := decide_eq_true c5
        try have c5b2 : (9223372036854775807 < 2 + t189.size + 1) = False := eq_false (Nat.not_lt.2 c5)
        obtain rfl := Option.some.inj H
        go_enter Tryd.func112, Tryd.ntmps112
        go_wp2_with (first | ((with_reducible refine gate_callee (f := 110) rfl ?_); refine goesL_ (some 7) rfl rfl Tryd.func110 (by kernel_rfl) rfl #[.slice A0 l0.length c0, .string (⟨#[59]⟩ : ByteArray)] rfl (by (try simp only [List.map_toArray, List.map_cons, List.map_nil]); first | done | rfl | (simp only [List.length_drop, List.length_take]; rfl) | (simp [Act.eval, *]; done)) ?_; (with_reducible refine (xansi_zzJoin.calls k _ _ l0 (⟨#[59]⟩ : ByteArray) t189 _ ?side1 ?side2 A3.out).mono ?_); (case side1 => repeat (first | exact HR0.out | (with_reducible refine Kd.C_alloc ?_ _) | (with_reducible refine Kd.C_drewN ?_ _) | (with_reducible refine Kd.C_drew ?_))); (case side2 => exact HC0.out); rintro e w' ⟨rfl, ⟨nd, rfl⟩⟩; refine ⟨_, rfl, ?_⟩))
        go_ret
        exact ⟨by first | rfl | (simp; done) | (simp [*]; done), by repeat (first | exact Drawn0.refl _ | apply Drawn0.step)⟩
      · rw [if_neg c5] at H
        exact absurd H (by simp)
    · rw [if_neg c4] at H
      exact absurd H (by simp)

/-! ### xansi_SelectGraphicRendition: function 88 -/
def xansi_SelectGraphicRendition.f (k : Nat) (l0 : List Int) : Option (ByteArray) := if (l0.length : Int) = 0 then (some (⟨#[27, 91, 109]⟩ : ByteArray)) else ((xansi_NewStyle.f k l0).bind fun t190 => ((xansi_Style_String.f k t190).bind fun t193 => (some t193)))
theorem xansi_SelectGraphicRendition.mono : ∀ a0 k, LeO (xansi_SelectGraphicRendition.f k a0) (xansi_SelectGraphicRendition.f (k + 1) a0) := by
  intro a0 k
  unfold xansi_SelectGraphicRendition.f
  repeat' first
      | (with_reducible exact xansi_NewStyle.mono _ _)
      | (with_reducible exact xansi_Style_String.mono _ _)
      | (with_reducible exact LeO.refl _)
      | (with_reducible exact LeO.none _)
      | (with_reducible refine LeO.ite ?_ ?_)
      | (with_reducible refine LeO.bind ?_ (fun _ => ?_))
      | exact xansi_NewStyle.mono _ _
      | exact xansi_Style_String.mono _ _
      | exact LeO.none _
      | refine LeO.ite ?_ ?_
      | refine LeO.bind ?_ (fun _ => ?_)
set_option maxHeartbeats 8000000 in
set_option maxRecDepth 100000 in
theorem xansi_SelectGraphicRendition.calls (k : Nat) (A0 : Option Addr) (c0 : Nat) (l0 : List Int) (r : ByteArray) (w : World) (hr0 : Kd.C (Kd.int .i64) w A0 l0.length l0) (hc0 : l0.length ≤ c0) (hLD : Laid w) (h : xansi_SelectGraphicRendition.f k l0 = some r) :
    Calls Tryd.prog 88 #[.slice A0 l0.length c0] w fun e w' => e = .returned (.string r) ∧ Below w.heap.size w w' := by
  have HLD := Aside0.mk hLD
  clear hLD
  have HR0 := Aside0.mk hr0
  have HC0 := Aside0.mk hc0
  clear hr0 hc0
  have HB := Aside0.mk (Below.refl w.heap.size w)
  have H : (if (l0.length : Int) = 0 then (some (⟨#[27, 91, 109]⟩ : ByteArray)) else ((xansi_NewStyle.f k l0).bind fun t190 => ((xansi_Style_String.f k t190).bind fun t193 => (some t193)))) = some r := h
  clear h
  by_cases c2 : (l0.length : Int) = 0
  · rw [if_pos c2] at H
    have c2b0 : ((l0.length : Int) == 0) = true := beq_iff_eq.mpr c2
    have c2b1 : ((l0.length : Int) != 0) = false := bne_eq_false_iff_eq.mpr c2
    clear c2
    obtain rfl := Option.some.inj H
    go_enter Tryd.func88, Tryd.ntmps88
    go_wp2
    go_ret
    exact ⟨by first | rfl | (simp [errW_none, errW_some] <;> rfl) | (simp [*, errW_none, errW_some] <;> rfl), by repeat (first | (with_reducible first | exact HB.out | apply below_alloc | apply Ext.below_bytes | apply pw_below_drewN | apply below_drew1) | exact HB.out)⟩
  · rw [if_neg c2] at H
    have c2b0 : ((l0.length : Int) == 0) = false := beq_eq_false_iff_ne.mpr c2
    have c2b1 : ((l0.length : Int) != 0) = true := bne_iff_ne.mpr c2
    have c2b2 : ¬ (l0 = []) := fun h_ => c2 (by rw [h_]; rfl)
    replace H := Option.bind_eq_some_iff.mp H
    obtain ⟨t190, A30, H⟩ := H
    replace H : ((xansi_Style_String.f k t190).bind fun t193 => (some t193)) = some r := H
    have A3 := Aside0.mk A30
    clear A30
    replace H := Option.bind_eq_some_iff.mp H
    obtain ⟨t193, A40, H⟩ := H
    replace H : (some t193) = some r := H
    have A4 := Aside0.mk A40
    clear A40
    obtain rfl := Option.some.inj H
    go_enter Tryd.func88, Tryd.ntmps88
    go_wp2_with (first | ((with_reducible refine gate_callee (f := 111) rfl ?_); refine goesL_ (some 7) rfl rfl Tryd.func111 (by kernel_rfl) rfl #[.slice A0 l0.length c0] rfl (by (try simp only [List.map_toArray, List.map_cons, List.map_nil]); first | done | rfl | (simp only [List.length_drop, List.length_take]; rfl) | (simp [Act.eval, *]; done)) ?_; (with_reducible refine (xansi_NewStyle.calls k _ _ l0 t190 _ ?side1 ?side2 ?side3 A3.out).mono ?_); (case side1 => repeat (first | exact HR0.out | (with_reducible refine Kd.C_alloc ?_ _) | (with_reducible refine Kd.C_drewN ?_ _) | (with_reducible refine Kd.C_drew ?_))); (case side2 => exact HC0.out); (case side3 => exact HLD.out.below (by repeat (first | (with_reducible first | exact HB.out | apply below_alloc | apply Ext.below_bytes | apply pw_below_drewN | apply below_drew1) | exact HB.out))); rintro e w5 ⟨v191, rfl, ho0, hb⟩; refine ⟨_, rfl, ?_⟩; have n0_ := Aside0.mk (Kd.R_lower ho0 (below_size (by repeat (first | (with_reducible first | exact HB.out | apply below_alloc | apply Ext.below_bytes | apply pw_below_drewN | apply below_drew1) | exact HB.out)))); have n1_ := Aside0.mk (below_step (by repeat (first | (with_reducible first | exact HB.out | apply below_alloc | apply Ext.below_bytes | apply pw_below_drewN | apply below_drew1) | exact HB.out)) hb); clear HB; have HO192 := n0_; have HB := n1_; clear n0_ n1_; (try clear hb); (try clear hb2); (try clear hk); (try clear hi); (try clear ho0); obtain ⟨Ao6, co6, eo6⟩ := Kd.R_slice HO192.out; subst eo6) | ((with_reducible refine gate_callee (f := 112) rfl ?_); refine goesL_ (some 8) rfl rfl Tryd.func112 (by kernel_rfl) rfl #[.slice Ao6 t190.length co6] rfl (by (try simp only [List.map_toArray, List.map_cons, List.map_nil]); first | done | rfl | (simp only [List.length_drop, List.length_take]; rfl) | (simp [Act.eval, *]; done)) ?_; (with_reducible refine (xansi_Style_String.calls k _ _ t190 t193 _ ?side1 ?side2 A4.out).mono ?_); (case side1 => repeat (first | exact (Kd.R_reads' HO192.out).2.2 | (with_reducible refine Kd.C_alloc ?_ _) | (with_reducible refine Kd.C_drewN ?_ _) | (with_reducible refine Kd.C_drew ?_))); (case side2 => exact (Kd.R_reads' HO192.out).2.1); rintro e w' ⟨rfl, ⟨nd, rfl⟩⟩; refine ⟨_, rfl, ?_⟩))
    go_ret
    exact ⟨by first | rfl | (simp [errW_none, errW_some] <;> rfl) | (simp [*, errW_none, errW_some] <;> rfl), by repeat (first | (with_reducible first | exact HB.out | apply below_alloc | apply Ext.below_bytes | apply pw_below_drewN | apply below_drew1) | exact HB.out)⟩

/-! ### xansi_WindowOp: function 89 -/
def xansi_WindowOp.l0 : Nat → List ByteArray → List Int → Int → Int → Option (ByteArray)
  | 0, _, _, _, _ => none
  | k + 1, x5, x26, x27, x28 => if x28 < x27 then (if 0 ≤ x28 then (if x28 < (x26.length : Int) then (if (rd x26 x28) ≥ 0 then ((strconv_Itoa.f (rd x26 x28)).bind fun t203 => (if x5.length < 8796093022208 then (xansi_WindowOp.l0 k (x5 ++ [t203]) x26 x27 (wrap64 (x28 + 1))) else (none))) else (xansi_WindowOp.l0 k x5 x26 x27 (wrap64 (x28 + 1)))) else (none)) else (none)) else ((xansi_zzJoin.f k x5 (⟨#[59]⟩ : ByteArray)).bind fun t207 => (if 2 + t207.size ≤ 9223372036854775807 then (if 2 + t207.size + 1 ≤ 9223372036854775807 then (some (((⟨#[27, 91]⟩ : ByteArray) ++ t207) ++ (⟨#[116]⟩ : ByteArray))) else (none)) else (none)))
def xansi_WindowOp.f (k : Nat) (a0 : Int) (l1 : List Int) : Option (ByteArray) := if a0 ≤ 0 then (some (⟨#[]⟩ : ByteArray)) else (if (l1.length : Int) = 0 then ((strconv_Itoa.f a0).bind fun t194 => (if 2 + t194.size ≤ 9223372036854775807 then (if 2 + t194.size + 1 ≤ 9223372036854775807 then (some (((⟨#[27, 91]⟩ : ByteArray) ++ t194) ++ (⟨#[116]⟩ : ByteArray))) else (none)) else (none))) else (if 0 ≤ (wrap64 ((l1.length : Int) + 1)) then (if (wrap64 ((l1.length : Int) + 1) : Int).toNat ≤ 17592186044416 then ((some (([] : List ByteArray) : List ByteArray)).bind fun y195 => ((strconv_Itoa.f a0).bind fun t198 => (if y195.length < 8796093022208 then (xansi_WindowOp.l0 k (y195 ++ [t198]) l1 (l1.length : Int) 0) else (none)))) else (none)) else (none)))
theorem xansi_WindowOp.mono_l : ∀ k, (∀ y0 y1 y2 y3, LeO (xansi_WindowOp.l0 k y0 y1 y2 y3) (xansi_WindowOp.l0 (k + 1) y0 y1 y2 y3))
  | 0 => fun _ _ _ _ r h => by simp [xansi_WindowOp.l0] at h
  | k + 1 => by
    have ih0 := xansi_WindowOp.mono_l k
    · intro y0 y1 y2 y3
      unfold xansi_WindowOp.l0
      repeat' first
      | (with_reducible exact ih0 _ _ _ _)
      | (with_reducible exact xansi_zzJoin.mono _ _ _)
      | (with_reducible exact LeO.refl _)
      | (with_reducible exact LeO.none _)
      | (with_reducible refine LeO.ite ?_ ?_)
      | (with_reducible refine LeO.bind ?_ (fun _ => ?_))
      | exact ih0 _ _ _ _
      | exact xansi_zzJoin.mono _ _ _
      | exact LeO.none _
      | refine LeO.ite ?_ ?_
      | refine LeO.bind ?_ (fun _ => ?_)
theorem xansi_WindowOp.mono : ∀ a0 a1 k, LeO (xansi_WindowOp.f k a0 a1) (xansi_WindowOp.f (k + 1) a0 a1) := by
  intro a0 a1 k
  have ih0 := xansi_WindowOp.mono_l k
  unfold xansi_WindowOp.f
  repeat' first
      | (with_reducible exact ih0 _ _ _ _)
      | (with_reducible exact xansi_zzJoin.mono _ _ _)
      | (with_reducible exact LeO.refl _)
      | (with_reducible exact LeO.none _)
      | (with_reducible refine LeO.ite ?_ ?_)
      | (with_reducible refine LeO.bind ?_ (fun _ => ?_))
      | exact ih0 _ _ _ _
      | exact xansi_zzJoin.mono _ _ _
      | exact LeO.none _
      | refine LeO.ite ?_ ?_
      | refine LeO.bind ?_ (fun _ => ?_)
set_option maxHeartbeats 8000000 in
set_option maxRecDepth 100000 in
theorem xansi_WindowOp.calls (k : Nat) (a0 : Int) (A1 : Option Addr) (c1 : Nat) (l1 : List Int) (r : ByteArray) (w : World) (hr1 : Kd.C (Kd.int .i64) w A1 l1.length l1) (hc1 : l1.length ≤ c1) (hLD : Laid w) (h : xansi_WindowOp.f k a0 l1 = some r) :
    Calls Tryd.prog 89 #[.int .i64 a0, .slice A1 l1.length c1] w fun e w' => e = .returned (.string r) ∧ Below w.heap.size w w' := by
  have HLD := Aside0.mk hLD
  clear hLD
  have HR1 := Aside0.mk hr1
  have HC1 := Aside0.mk hc1
  clear hr1 hc1
  have HB := Aside0.mk (Below.refl w.heap.size w)
  have H : (if a0 ≤ 0 then (some (⟨#[]⟩ : ByteArray)) else (if (l1.length : Int) = 0 then ((strconv_Itoa.f a0).bind fun t194 => (if 2 + t194.size ≤ 9223372036854775807 then (if 2 + t194.size + 1 ≤ 9223372036854775807 then (some (((⟨#[27, 91]⟩ : ByteArray) ++ t194) ++ (⟨#[116]⟩ : ByteArray))) else (none)) else (none))) else (if 0 ≤ (wrap64 ((l1.length : Int) + 1)) then (if (wrap64 ((l1.length : Int) + 1) : Int).toNat ≤ 17592186044416 then ((some (([] : List ByteArray) : List ByteArray)).bind fun y195 => ((strconv_Itoa.f a0).bind fun t198 => (if y195.length < 8796093022208 then (xansi_WindowOp.l0 k (y195 ++ [t198]) l1 (l1.length : Int) 0) else (none)))) else (none)) else (none)))) = some r := h
  clear h
  by_cases c3 : a0 ≤ 0
  · rw [if_pos c3] at H
    have c3b0 : decide (a0 ≤ 0) = true := decide_eq_true c3
    clear c3
    obtain rfl := Option.some.inj H
    go_enter Tryd.func89, Tryd.ntmps89
    go_wp2
    go_ret
    exact ⟨by first | rfl | (simp [errW_none, errW_some] <;> rfl) | (simp [*, errW_none, errW_some] <;> rfl), by repeat (first | (with_reducible first | exact HB.out | apply below_alloc | apply Ext.below_bytes | apply pw_below_drewN | apply below_drew1) | exact HB.out)⟩
  · rw [if_neg c3] at H
    have c3b0 : decide (a0 ≤ 0) = false := decide_eq_false c3
    clear c3
    by_cases c4 : (l1.length : Int) = 0
    · rw [if_pos c4] at H
      have c4b0 : ((l1.length : Int) == 0) = true := beq_iff_eq.mpr c4
      have c4b1 : ((l1.length : Int) != 0) = false := bne_eq_false_iff_eq.mpr c4
      clear c4
      replace H := Option.bind_eq_some_iff.mp H
      obtain ⟨t194, A50, H⟩ := H
      replace H : (if 2 + t194.size ≤ 9223372036854775807 then (if 2 + t194.size + 1 ≤ 9223372036854775807 then (some (((⟨#[27, 91]⟩ : ByteArray) ++ t194) ++ (⟨#[116]⟩ : ByteArray))) else (none)) else (none)) = some r := H
      have A5 := Aside0.mk A50
      clear A50
      by_cases c6 : 2 + t194.size ≤ 9223372036854775807
      · rw [if_pos c6] at H
        have c6b0 := eq_true c6
        have c6b1 : decide (2 + t194.size ≤ 9223372036854775807) = true := decide_eq_true c6
        try have c6b2 : (9223372036854775807 < 2 + t194.size) = False := eq_false (Nat.not_lt.2 c6)
        by_cases c7 : 2 + t194.size + 1 ≤ 9223372036854775807
        · rw [if_pos c7] at H
          have c7b0 := eq_true c7
          have c7b1 : decide (2 + t194.size + 1 ≤ 9223372036854775807) = true := decide_eq_true c7
          try have c7b2 : (9223372036854775807 < 2 + t194.size + 1) = False := eq_false (Nat.not_lt.2 c7)
          obtain rfl := Option.some.inj H
          go_enter Tryd.func89, Tryd.ntmps89
          go_wp2_with (first | ((with_reducible refine gate_callee (f := 109) rfl ?_); refine goesL_ (some 14) rfl rfl Tryd.func109 (by kernel_rfl) rfl #[.int .i64 a0] rfl (by (try simp only [List.map_toArray, List.map_cons, List.map_nil]); first | done | rfl | (simp only [List.length_drop, List.length_take]; rfl) | (simp [Act.eval, *]; done)) ?_; (with_reducible refine (strconv_Itoa.calls a0 t194 _ ?side1 A5.out).mono ?_); (case side1 => exact HLD.out.below (by repeat (first | (with_reducible first | exact HB.out | apply below_alloc | apply Ext.below_bytes | apply pw_below_drewN | apply below_drew1) | exact HB.out))); rintro e w8 ⟨rfl, hb⟩; refine ⟨_, rfl, ?_⟩; have n0_ := Aside0.mk (below_step (by repeat (first | (with_reducible first | exact HB.out | apply below_alloc | apply Ext.below_bytes | apply pw_below_drewN | apply below_drew1) | exact HB.out)) hb); clear HB; have HB := n0_; clear n0_; (try clear hb); (try clear hb2); (try clear hk); (try clear hi)))
          go_ret
          exact ⟨by first | rfl | (simp [errW_none, errW_some] <;> rfl) | (simp [*, errW_none, errW_some] <;> rfl), by repeat (first | (with_reducible first | exact HB.out | apply below_alloc | apply Ext.below_bytes | apply pw_below_drewN | apply below_drew1) | exact HB.out)⟩
        · rw [if_neg c7] at H
          exact absurd H (by simp)
      · rw [if_neg c6] at H
        exact absurd H (by simp)
    · rw [if_neg c4] at H
      have c4b0 : ((l1.length : Int) == 0) = false := beq_eq_false_iff_ne.mpr c4
      have c4b1 : ((l1.length : Int) != 0) = true := bne_iff_ne.mpr c4
      have c4b2 : ¬ (l1 = []) := fun h_ => c4 (by rw [h_]; rfl)
      obtain ⟨ji9, hji9⟩ : ∃ j_ : Int, (wrap64 ((l1.length : Int) + 1)) = j_ := ⟨_, rfl⟩
      replace H : (if 0 ≤ (ji9) then (if (ji9 : Int).toNat ≤ 17592186044416 then ((some (([] : List ByteArray) : List ByteArray)).bind fun y195 => ((strconv_Itoa.f a0).bind fun t198 => (if y195.length < 8796093022208 then (xansi_WindowOp.l0 k (y195 ++ [t198]) l1 (l1.length : Int) 0) else (none)))) else (none)) else (none)) = some r := by first | (rw [hji9] at H; exact H) | (simp only [hji9] at H ⊢; exact H)
      have hji9w : (IntKind.i64.wrap ((l1.length : Int) + 1)) = ji9 := (i64_w _).trans hji9
      by_cases c10 : 0 ≤ (ji9)
      · rw [if_pos c10] at H
        have c10b0 := eq_true c10
        have c10b1 : decide (0 ≤ (ji9)) = true := decide_eq_true c10
        clear c10
        by_cases c11 : (ji9 : Int).toNat ≤ 17592186044416
        · rw [if_pos c11] at H
          have c11b0 := eq_true c11
          have c11b1 : decide ((ji9 : Int).toNat ≤ 17592186044416) = true := decide_eq_true c11
          clear c11
          obtain ⟨y195, hy195⟩ : ∃ y_ : List ByteArray, y_ = (([] : List ByteArray)) := ⟨_, rfl⟩
          replace H : ((strconv_Itoa.f a0).bind fun t198 => (if y195.length < 8796093022208 then (xansi_WindowOp.l0 k (y195 ++ [t198]) l1 (l1.length : Int) 0) else (none))) = some r := by first | (rw [hy195]; with_reducible exact H) | (have H2_ := (Option.bind_some _ _).symm.trans H; rw [hy195]; with_reducible exact H2_) | (have H2_ := (Option.bind_some _ _).symm.trans H; with_reducible exact H2_) | with_reducible exact H | (rw [hy195]; exact H) | exact H
          have Ny195 := Aside0.mk hy195
          clear hy195
          replace H := Option.bind_eq_some_iff.mp H
          obtain ⟨t198, A120, H⟩ := H
          replace H : (if y195.length < 8796093022208 then (xansi_WindowOp.l0 k (y195 ++ [t198]) l1 (l1.length : Int) 0) else (none)) = some r := H
          have A12 := Aside0.mk A120
          clear A120
          by_cases c13 : y195.length < 8796093022208
          · rw [if_pos c13] at H
            have LMc13 := Aside0.mk c13
            clear c13
            obtain ⟨y199, hy199⟩ : ∃ y_ : List ByteArray, y_ = (y195 ++ [t198]) := ⟨_, rfl⟩
            replace H : (xansi_WindowOp.l0 k y199 l1 (l1.length : Int) 0) = some r := by first | (rw [hy199]; with_reducible exact H) | (have H2_ := (Option.bind_some _ _).symm.trans H; rw [hy199]; with_reducible exact H2_) | (have H2_ := (Option.bind_some _ _).symm.trans H; with_reducible exact H2_) | with_reducible exact H | (rw [hy199]; exact H) | exact H
            have Ny199 := Aside0.mk hy199
            clear hy199
            have H' := Aside0.mk H
            clear H
            go_enter Tryd.func89, Tryd.ntmps89
            go_wp2_with (first | ((with_reducible refine gate_dst (N := 20) rfl ?_); refine Ext.R_make0 Kd.string _ 9 rfl (N := 20) rfl 68 _ _ rfl ji9 rfl rfl Tryd.underlying68 (.string ⟨#[]⟩) 16 info9 rfl (by decide) (by omega) (⟨#[]⟩ : ByteArray) (ok := fun _ => True) (okp := fun _ => True) rfl (fun _ hk => hk) trivial (of_decide_eq_true (by first | (with_reducible assumption) | assumption)) (Nat.le_trans (Nat.mul_le_mul_right _ (of_decide_eq_true (by first | (with_reducible assumption) | assumption) : ji9.toNat ≤ 17592186044416)) (by omega)) (Below.refl _ _) (Nat.le_refl _) ?_; intro v196 w14 ho15 hb hg_ hnew_; clear hg_ hnew_; (first | rw [← Ny195.out] at ho15 | (simp only [Int.reduceToNat] at ho15; rw [← Ny195.out] at ho15)); have n0_ := Aside0.mk (Kd.R_lower ho15 (below_size (by repeat (first | (with_reducible first | exact HB.out | apply below_alloc | apply Ext.below_bytes | apply pw_below_drewN | apply below_drew1) | exact HB.out)))); have n1_ := Aside0.mk (below_step (by repeat (first | (with_reducible first | exact HB.out | apply below_alloc | apply Ext.below_bytes | apply pw_below_drewN | apply below_drew1) | exact HB.out)) hb); clear HB; have HO197 := n0_; have HB := n1_; clear n0_ n1_; clear hb ho15) | ((with_reducible refine gate_callee (f := 109) rfl ?_); refine goesL_ (some 23) rfl rfl Tryd.func109 (by kernel_rfl) rfl #[.int .i64 a0] rfl (by (try simp only [List.map_toArray, List.map_cons, List.map_nil]); first | done | rfl | (simp only [List.length_drop, List.length_take]; rfl) | (simp [Act.eval, *]; done)) ?_; (with_reducible refine (strconv_Itoa.calls a0 t198 _ ?side1 A12.out).mono ?_); (case side1 => exact HLD.out.below (by repeat (first | (with_reducible first | exact HB.out | apply below_alloc | apply Ext.below_bytes | apply pw_below_drewN | apply below_drew1) | exact HB.out))); rintro e w16 ⟨rfl, hb⟩; refine ⟨_, rfl, ?_⟩; have n0_ := Aside0.mk (Kd.R_below (by (with_reducible repeat (first | apply Kd.R_alloc | apply Ext.R_bytes | apply Kd.R_drewN | apply Kd.R_drew)); exact HO197.out) hb); have n1_ := Aside0.mk (below_step (by repeat (first | (with_reducible first | exact HB.out | apply below_alloc | apply Ext.below_bytes | apply pw_below_drewN | apply below_drew1) | exact HB.out)) hb); clear HO197; clear HB; have HO197 := n0_; have HB := n1_; clear n0_ n1_; (try clear hb); (try clear hb2); (try clear hk); (try clear hi)) | ((with_reducible refine gate_builtin (b := .append) (xs := #[.tmp 21, .tmp 24]) rfl ?_); at_builtin; refine Kd.R_append Kd.string (w0 := w) w.heap.size rfl (.tmp 21) (.tmp 24) 68 9 (.string ⟨#[]⟩) 16 rfl Tryd.underlying68 info9 rfl (by decide) (by omega) v196 y195 t198 [.string t198] (fun _ => True) (fun _ => False) rfl rfl ?aP (fun _ hk => hk.elim) ?aF ?aO ?aB ?aS ?aL ?_; (case aP => exact rfl); (case aB => exact (by repeat (first | (with_reducible first | exact HB.out | apply below_alloc | apply Ext.below_bytes | apply pw_below_drewN | apply below_drew1) | exact HB.out))); (case aF => exact (fun _ _ => trivial)); (case aO => exact (by (with_reducible repeat (first | apply Kd.R_alloc | apply Ext.R_bytes | apply Kd.R_drewN | apply Kd.R_drew)); exact HO197.out)); (case aS => exact (below_size (by repeat (first | (with_reducible first | exact HB.out | apply below_alloc | apply Ext.below_bytes | apply pw_below_drewN | apply below_drew1) | exact HB.out)))); (case aL => have := LMc13.out; omega); intro v200 w17 ho hb hg hat; rw [← Ny199.out] at ho; have n0_ := Aside0.mk (hb); have n1_ := Aside0.mk (ho); clear HB; clear HO197; have HB := n0_; have HO201 := n1_; clear n0_ n1_; clear ho hb hg hat))
            go_loopg [5, 28] k (fun kq v5 v28 w' => ∃ (x5_1 : List ByteArray) (x28_1 : Int), v28 = .int .i64 x28_1 ∧ Aside0 (xansi_WindowOp.l0 kq x5_1 l1 (l1.length : Int) x28_1 = some r) ∧ Aside0 (kq ≤ k) ∧ Aside0 (Kd.R Kd.string 9 w' w.heap.size (fun _ => True) v5 x5_1) ∧ Aside0 (Below w.heap.size w w'))
            case atStart => exact ⟨(y199), (0), (by first | rfl | (simp; done) | (simp [*]; done)), H', ⟨Nat.le_refl _⟩, ⟨by (with_reducible repeat (first | apply Kd.R_alloc | apply Ext.R_bytes | apply Kd.R_drewN | apply Kd.R_drew)); exact HO201.out⟩, ⟨by repeat (first | (with_reducible first | exact HB.out | apply below_alloc | apply Ext.below_bytes | apply pw_below_drewN | apply below_drew1) | exact HB.out)⟩⟩
            case round =>
              clear H'
              try clear c1
              try clear p2
              try clear c3
              try clear c3b0
              try clear c4
              try clear c4b0
              try clear c4b1
              try clear c4b2
              try clear c6
              try clear c6b0
              try clear c6b1
              try clear c6b2
              try clear p6
              try clear c7
              try clear c7b0
              try clear c7b1
              try clear c7b2
              try clear c8
              try clear c10
              try clear c10b0
              try clear c10b1
              try clear c11
              try clear c11b0
              try clear c11b1
              try clear c13
              obtain ⟨x5_1, x28_1, rfl, HA, HK1, HO_5, HB⟩ := hrel
              cases gk with
              | zero => exact absurd HA.out (by simp [xansi_WindowOp.l0])
              | succ k1 =>
                have H := HA.out
                clear HA
                simp only [xansi_WindowOp.l0] at H
                by_cases c18 : x28_1 < (l1.length : Int)
                · rw [if_pos c18] at H
                  have c18b0 : decide (x28_1 < (l1.length : Int)) = true := decide_eq_true c18
                  clear c18
                  by_cases c19 : 0 ≤ x28_1
                  · rw [if_pos c19] at H
                    have c19b0 : decide (0 ≤ x28_1) = true := decide_eq_true c19
                    clear c19
                    by_cases c20 : x28_1 < (l1.length : Int)
                    · rw [if_pos c20] at H
                      have c20b0 : decide (x28_1 < (l1.length : Int)) = true := decide_eq_true c20
                      clear c20
                      by_cases c21 : (rd l1 x28_1) ≥ 0
                      · rw [if_pos c21] at H
                        have c21b0 : decide (0 ≤ (rd l1 x28_1)) = true := decide_eq_true c21
                        clear c21
                        replace H := Option.bind_eq_some_iff.mp H
                        obtain ⟨t203, A220, H⟩ := H
                        replace H : (if x5_1.length < 8796093022208 then (xansi_WindowOp.l0 k1 (x5_1 ++ [t203]) l1 (l1.length : Int) (wrap64 (x28_1 + 1))) else (none)) = some r := H
                        have A22 := Aside0.mk A220
                        clear A220
                        by_cases c23 : x5_1.length < 8796093022208
                        · rw [if_pos c23] at H
                          have LMc23 := Aside0.mk c23
                          clear c23
                          obtain ⟨y204, hy204⟩ : ∃ y_ : List ByteArray, y_ = (x5_1 ++ [t203]) := ⟨_, rfl⟩
                          replace H : (xansi_WindowOp.l0 k1 y204 l1 (l1.length : Int) (wrap64 (x28_1 + 1))) = some r := by first | (rw [hy204]; with_reducible exact H) | (have H2_ := (Option.bind_some _ _).symm.trans H; rw [hy204]; with_reducible exact H2_) | (have H2_ := (Option.bind_some _ _).symm.trans H; with_reducible exact H2_) | with_reducible exact H | (rw [hy204]; exact H) | exact H
                          have Ny204 := Aside0.mk hy204
                          clear hy204
                          have H' := Aside0.mk H
                          clear H
                          have p202 : 0 ≤ (x28_1 : Int) := of_decide_eq_true (by first | (with_reducible assumption) | assumption)
                          have q202 : x28_1 < (l1.length : Int) := of_decide_eq_true (by first | (with_reducible assumption) | assumption)
                          obtain ⟨ad202, e202, hx202_0⟩ := Kd.at_int HR1.out x28_1 p202 q202
                          cases e202
                          replace hx202_0 := (HB.out.cell (World.block_lt_of_cell? w _ hx202_0)).trans hx202_0
                          replace p202 := eq_true p202
                          replace q202 := eq_true q202
                          go_wp2_with (first | ((with_reducible refine gate_callee (f := 109) rfl ?_); refine goesL_ (some 36) rfl rfl Tryd.func109 (by kernel_rfl) rfl #[.int .i64 (rd l1 x28_1)] rfl (by (try simp only [List.map_toArray, List.map_cons, List.map_nil]); first | done | rfl | (simp only [List.length_drop, List.length_take]; rfl) | (simp [Act.eval, *]; done)) ?_; (with_reducible refine (strconv_Itoa.calls (rd l1 x28_1) t203 _ ?side1 A22.out).mono ?_); (case side1 => exact HLD.out.below (by repeat (first | (with_reducible first | exact HB.out | apply below_alloc | apply Ext.below_bytes | apply pw_below_drewN | apply below_drew1) | exact HB.out))); rintro e w24 ⟨rfl, hb⟩; refine ⟨_, rfl, ?_⟩; have n0_ := Aside0.mk (Kd.R_below (by (with_reducible repeat (first | apply Kd.R_alloc | apply Ext.R_bytes | apply Kd.R_drewN | apply Kd.R_drew)); exact HO_5.out) hb); have n1_ := Aside0.mk (below_step (by repeat (first | (with_reducible first | exact HB.out | apply below_alloc | apply Ext.below_bytes | apply pw_below_drewN | apply below_drew1) | exact HB.out)) hb); clear HO_5; clear HB; have HO_5 := n0_; have HB := n1_; clear n0_ n1_; (try clear hb); (try clear hb2); (try clear hk); (try clear hi)) | ((with_reducible refine gate_builtin (b := .append) (xs := #[.tmp 34, .tmp 37]) rfl ?_); at_builtin; refine Kd.R_append Kd.string (w0 := w) w.heap.size rfl (.tmp 34) (.tmp 37) 68 9 (.string ⟨#[]⟩) 16 rfl Tryd.underlying68 info9 rfl (by decide) (by omega) u5 x5_1 t203 [.string t203] (fun _ => True) (fun _ => False) rfl rfl ?aP (fun _ hk => hk.elim) ?aF ?aO ?aB ?aS ?aL ?_; (case aP => exact rfl); (case aB => exact (by repeat (first | (with_reducible first | exact HB.out | apply below_alloc | apply Ext.below_bytes | apply pw_below_drewN | apply below_drew1) | exact HB.out))); (case aF => exact (fun _ _ => trivial)); (case aO => exact (by (with_reducible repeat (first | apply Kd.R_alloc | apply Ext.R_bytes | apply Kd.R_drewN | apply Kd.R_drew)); exact HO_5.out)); (case aS => exact (below_size (by repeat (first | (with_reducible first | exact HB.out | apply below_alloc | apply Ext.below_bytes | apply pw_below_drewN | apply below_drew1) | exact HB.out)))); (case aL => have := LMc23.out; omega); intro v205 w25 ho hb hg hat; rw [← Ny204.out] at ho; have n0_ := Aside0.mk (hb); have n1_ := Aside0.mk (ho); clear HB; clear HO_5; have HB := n0_; have HO206 := n1_; clear n0_ n1_; clear ho hb hg hat))
                          go_roundg k1
                          case measure => have := HK1.out; omega
                          case rel => exact ⟨(y204), (wrap64 (x28_1 + 1)), (by first | rfl | (simp; done) | (simp [*]; done)), H', ⟨by have := HK1.out; omega⟩, ⟨by (with_reducible repeat (first | apply Kd.R_alloc | apply Ext.R_bytes | apply Kd.R_drewN | apply Kd.R_drew)); exact HO206.out⟩, ⟨by repeat (first | (with_reducible first | exact HB.out | apply below_alloc | apply Ext.below_bytes | apply pw_below_drewN | apply below_drew1) | exact HB.out)⟩⟩
                        · rw [if_neg c23] at H
                          exact absurd H (by simp)
                      · rw [if_neg c21] at H
                        have c21b0 : decide (0 ≤ (rd l1 x28_1)) = false := decide_eq_false c21
                        clear c21
                        have H' := Aside0.mk H
                        clear H
                        have p202 : 0 ≤ (x28_1 : Int) := of_decide_eq_true (by first | (with_reducible assumption) | assumption)
                        have q202 : x28_1 < (l1.length : Int) := of_decide_eq_true (by first | (with_reducible assumption) | assumption)
                        obtain ⟨ad202, e202, hx202_0⟩ := Kd.at_int HR1.out x28_1 p202 q202
                        cases e202
                        replace hx202_0 := (HB.out.cell (World.block_lt_of_cell? w _ hx202_0)).trans hx202_0
                        replace p202 := eq_true p202
                        replace q202 := eq_true q202
                        go_wp2
                        go_roundg k1
                        case measure => have := HK1.out; omega
                        case rel => exact ⟨(x5_1), (wrap64 (x28_1 + 1)), (by first | rfl | (simp; done) | (simp [*]; done)), H', ⟨by have := HK1.out; omega⟩, ⟨by (with_reducible repeat (first | apply Kd.R_alloc | apply Ext.R_bytes | apply Kd.R_drewN | apply Kd.R_drew)); exact HO_5.out⟩, ⟨by repeat (first | (with_reducible first | exact HB.out | apply below_alloc | apply Ext.below_bytes | apply pw_below_drewN | apply below_drew1) | exact HB.out)⟩⟩
                    · rw [if_neg c20] at H
                      exact absurd H (by simp)
                  · rw [if_neg c19] at H
                    exact absurd H (by simp)
                · rw [if_neg c18] at H
                  have c18b0 : decide (x28_1 < (l1.length : Int)) = false := decide_eq_false c18
                  clear c18
                  replace H := Option.bind_eq_some_iff.mp H
                  obtain ⟨t207, A260, H⟩ := H
                  replace H : (if 2 + t207.size ≤ 9223372036854775807 then (if 2 + t207.size + 1 ≤ 9223372036854775807 then (some (((⟨#[27, 91]⟩ : ByteArray) ++ t207) ++ (⟨#[116]⟩ : ByteArray))) else (none)) else (none)) = some r := H
                  have A26 := Aside0.mk A260
                  clear A260
                  by_cases c27 : 2 + t207.size ≤ 9223372036854775807
                  · rw [if_pos c27] at H
                    have c27b0 := eq_true c27
                    have c27b1 : decide (2 + t207.size ≤ 9223372036854775807) = true := decide_eq_true c27
                    try have c27b2 : (9223372036854775807 < 2 + t207.size) = False := eq_false (Nat.not_lt.2 c27)
                    by_cases c28 : 2 + t207.size + 1 ≤ 9223372036854775807
                    · rw [if_pos c28] at H
                      have c28b0 := eq_true c28
                      have c28b1 : decide (2 + t207.size + 1 ≤ 9223372036854775807) = true := decide_eq_true c28
                      try have c28b2 : (9223372036854775807 < 2 + t207.size + 1) = False := eq_false (Nat.not_lt.2 c28)
                      obtain rfl := Option.some.inj H
                      obtain ⟨Ao29, co29, eo29⟩ := Kd.R_slice HO_5.out
                      subst eo29
                      go_wp2_with (first | ((with_reducible refine gate_callee (f := 110) rfl ?_); refine goesL_ (some 41) rfl rfl Tryd.func110 (by kernel_rfl) rfl #[.slice Ao29 x5_1.length co29, .string (⟨#[59]⟩ : ByteArray)] rfl (by (try simp only [List.map_toArray, List.map_cons, List.map_nil]); first | done | rfl | (simp only [List.length_drop, List.length_take]; rfl) | (simp [Act.eval, *]; done)) ?_; (with_reducible refine (xansi_zzJoin.calls k1 _ _ x5_1 (⟨#[59]⟩ : ByteArray) t207 _ ?side1 ?side2 A26.out).mono ?_); (case side1 => repeat (first | exact (Kd.R_reads' HO_5.out).2.2 | (with_reducible refine Kd.C_alloc ?_ _) | (with_reducible refine Kd.C_drewN ?_ _) | (with_reducible refine Kd.C_drew ?_))); (case side2 => exact (Kd.R_reads' HO_5.out).2.1); rintro e w' ⟨rfl, ⟨nd, rfl⟩⟩; refine ⟨_, rfl, ?_⟩))
                      go_ret
                      exact ⟨by first | rfl | (simp [errW_none, errW_some] <;> rfl) | (simp only [← hji9]; first | rfl | (simp [errW_none, errW_some] <;> rfl)) | (simp [*, errW_none, errW_some] <;> rfl), by repeat (first | (with_reducible first | exact HB.out | apply below_alloc | apply Ext.below_bytes | apply pw_below_drewN | apply below_drew1) | exact HB.out)⟩
                    · rw [if_neg c28] at H
                      exact absurd H (by simp)
                  · rw [if_neg c27] at H
                    exact absurd H (by simp)
          · rw [if_neg c13] at H
            exact absurd H (by simp)
        · rw [if_neg c11] at H
          exact absurd H (by simp)
      · rw [if_neg c10] at H
        exact absurd H (by simp)

/-! ### xansi_KeyModifierOptions: function 90 -/
def xansi_KeyModifierOptions.j0 : Nat → Int → List Int → ByteArray → Option (ByteArray)
  | 0, _, _, _ => none
  | k + 1, x0, x1, x5 => if (x1.length : Int) = 0 then ((strconv_Itoa.f x0).bind fun t209 => (if 3 + t209.size ≤ 9223372036854775807 then (if 3 + t209.size + 1 ≤ 9223372036854775807 then (some (((⟨#[27, 91, 62]⟩ : ByteArray) ++ t209) ++ (⟨#[109]⟩ : ByteArray))) else (none)) else (none))) else (if 0 < (x1.length : Int) then (if (rd x1 0) > 0 then ((strconv_Itoa.f (rd x1 0)).bind fun t211 => (if 3 + x5.size ≤ 9223372036854775807 then (if 3 + x5.size + 1 ≤ 9223372036854775807 then (if 3 + x5.size + 1 + t211.size ≤ 9223372036854775807 then (if 3 + x5.size + 1 + t211.size + 1 ≤ 9223372036854775807 then (some (((((⟨#[27, 91, 62]⟩ : ByteArray) ++ x5) ++ (⟨#[59]⟩ : ByteArray)) ++ t211) ++ (⟨#[109]⟩ : ByteArray))) else (none)) else (none)) else (none)) else (none))) else (if 3 + x5.size ≤ 9223372036854775807 then (if 3 + x5.size + 1 ≤ 9223372036854775807 then (some (((⟨#[27, 91, 62]⟩ : ByteArray) ++ x5) ++ (⟨#[109]⟩ : ByteArray))) else (none)) else (none))) else (none))
def xansi_KeyModifierOptions.f (k : Nat) (a0 : Int) (l1 : List Int) : Option (ByteArray) := if a0 > 0 then ((strconv_Itoa.f a0).bind fun t208 => (xansi_KeyModifierOptions.j0 k a0 l1 t208)) else (xansi_KeyModifierOptions.j0 k a0 l1 (⟨#[]⟩ : ByteArray))
theorem xansi_KeyModifierOptions.mono_l : ∀ k, (∀ y0 y1 y2, LeO (xansi_KeyModifierOptions.j0 k y0 y1 y2) (xansi_KeyModifierOptions.j0 (k + 1) y0 y1 y2))
  | 0 => fun _ _ _ r h => by simp [xansi_KeyModifierOptions.j0] at h
  | k + 1 => by
    have ih0 := xansi_KeyModifierOptions.mono_l k
    · intro y0 y1 y2
      unfold xansi_KeyModifierOptions.j0
      repeat' first
      | (with_reducible exact ih0 _ _ _)
      | (with_reducible exact LeO.refl _)
      | (with_reducible exact LeO.none _)
      | (with_reducible refine LeO.ite ?_ ?_)
      | (with_reducible refine LeO.bind ?_ (fun _ => ?_))
      | exact ih0 _ _ _
      | exact LeO.none _
      | refine LeO.ite ?_ ?_
      | refine LeO.bind ?_ (fun _ => ?_)
theorem xansi_KeyModifierOptions.mono : ∀ a0 a1 k, LeO (xansi_KeyModifierOptions.f k a0 a1) (xansi_KeyModifierOptions.f (k + 1) a0 a1) := by
  intro a0 a1 k
  have ih0 := xansi_KeyModifierOptions.mono_l k
  unfold xansi_KeyModifierOptions.f
  repeat' first
      | (with_reducible exact ih0 _ _ _)
      | (with_reducible exact LeO.refl _)
      | (with_reducible exact LeO.none _)
      | (with_reducible refine LeO.ite ?_ ?_)
      | (with_reducible refine LeO.bind ?_ (fun _ => ?_))
      | exact ih0 _ _ _
      | exact LeO.none _
      | refine LeO.ite ?_ ?_
      | refine LeO.bind ?_ (fun _ => ?_)
set_option maxHeartbeats 8000000 in
set_option maxRecDepth 100000 in
theorem xansi_KeyModifierOptions.calls (k : Nat) (a0 : Int) (A1 : Option Addr) (c1 : Nat) (l1 : List Int) (r : ByteArray) (w : World) (hr1 : Kd.C (Kd.int .i64) w A1 l1.length l1) (hc1 : l1.length ≤ c1) (hLD : Laid w) (h : xansi_KeyModifierOptions.f k a0 l1 = some r) :
    Calls Tryd.prog 90 #[.int .i64 a0, .slice A1 l1.length c1] w fun e w' => e = .returned (.string r) ∧ Below w.heap.size w w' := by
  have HLD := Aside0.mk hLD
  clear hLD
  have HR1 := Aside0.mk hr1
  have HC1 := Aside0.mk hc1
  clear hr1 hc1
  have HB := Aside0.mk (Below.refl w.heap.size w)
  have H : (if a0 > 0 then ((strconv_Itoa.f a0).bind fun t208 => (xansi_KeyModifierOptions.j0 k a0 l1 t208)) else (xansi_KeyModifierOptions.j0 k a0 l1 (⟨#[]⟩ : ByteArray))) = some r := h
  clear h
  have HC3 := Aside0.mk H
  clear H
  go_enter Tryd.func90, Tryd.ntmps90
  go_upto_if 9 with (fail)
  go_cut [5] (fun v5 wc => ∃ (kq : Nat) (x5_2 : ByteArray), v5 = .string x5_2 ∧ Aside0 (xansi_KeyModifierOptions.j0 kq a0 l1 x5_2 = some r) ∧ Aside0 (kq ≤ k) ∧ Aside0 (Below w.heap.size w wc))
  case first =>
    have H := HC3.out
    clear HC3
    by_cases c4 : a0 > 0
    · rw [if_pos c4] at H
      have c4b0 : decide (0 < a0) = true := decide_eq_true c4
      clear c4
      (first | rw [c4b0] | (simp only [i64_w, i32_w]; rw [c4b0]) | skip)
      replace H := Option.bind_eq_some_iff.mp H
      obtain ⟨t208, A50, H⟩ := H
      replace H : (xansi_KeyModifierOptions.j0 k a0 l1 t208) = some r := H
      have A5 := Aside0.mk A50
      clear A50
      have H' := Aside0.mk H
      clear H
      go_wp2_with (first | ((with_reducible refine gate_callee (f := 109) rfl ?_); refine goesL_ (some 11) rfl rfl Tryd.func109 (by kernel_rfl) rfl #[.int .i64 a0] rfl (by (try simp only [List.map_toArray, List.map_cons, List.map_nil]); first | done | rfl | (simp only [List.length_drop, List.length_take]; rfl) | (simp [Act.eval, *]; done)) ?_; (with_reducible refine (strconv_Itoa.calls a0 t208 _ ?side1 A5.out).mono ?_); (case side1 => exact HLD.out.below (by repeat (first | (with_reducible first | exact HB.out | apply below_alloc | apply Ext.below_bytes | apply pw_below_drewN | apply below_drew1) | exact HB.out))); rintro e w6 ⟨rfl, hb⟩; refine ⟨_, rfl, ?_⟩; have n0_ := Aside0.mk (below_step (by repeat (first | (with_reducible first | exact HB.out | apply below_alloc | apply Ext.below_bytes | apply pw_below_drewN | apply below_drew1) | exact HB.out)) hb); clear HB; have HB := n0_; clear n0_; (try clear hb); (try clear hb2); (try clear hk); (try clear hi)))
      go_meet
      case rel => exact ⟨_, (t208), (by first | rfl | (simp; done) | (simp [*]; done)), H', ⟨by first | omega | exact Nat.le_refl _⟩, ⟨by repeat (first | (with_reducible first | exact HB.out | apply below_alloc | apply Ext.below_bytes | apply pw_below_drewN | apply below_drew1) | exact HB.out)⟩⟩
    · rw [if_neg c4] at H
      have c4b0 : decide (0 < a0) = false := decide_eq_false c4
      clear c4
      (first | rw [c4b0] | (simp only [i64_w, i32_w]; rw [c4b0]) | skip)
      have H' := Aside0.mk H
      clear H
      go_wp2
      go_meet
      case rel => exact ⟨_, ((⟨#[]⟩ : ByteArray)), (by first | rfl | (simp; done) | (simp [*]; done)), H', ⟨by first | omega | exact Nat.le_refl _⟩, ⟨by repeat (first | (with_reducible first | exact HB.out | apply below_alloc | apply Ext.below_bytes | apply pw_below_drewN | apply below_drew1) | exact HB.out)⟩⟩
  case rest =>
    clear HC3
    try clear c1
    try clear p2
    try clear c4
    try clear c4b0
    obtain ⟨kq, x5_2, rfl, HA, HJ2, HB⟩ := hcut
    cases kq with
    | zero => exact absurd HA.out (by simp [xansi_KeyModifierOptions.j0])
    | succ kj2 =>
      have H := HA.out
      clear HA
      simp only [xansi_KeyModifierOptions.j0] at H
      by_cases c7 : (l1.length : Int) = 0
      · rw [if_pos c7] at H
        have c7b0 : ((l1.length : Int) == 0) = true := beq_iff_eq.mpr c7
        have c7b1 : ((l1.length : Int) != 0) = false := bne_eq_false_iff_eq.mpr c7
        clear c7
        replace H := Option.bind_eq_some_iff.mp H
        obtain ⟨t209, A80, H⟩ := H
        replace H : (if 3 + t209.size ≤ 9223372036854775807 then (if 3 + t209.size + 1 ≤ 9223372036854775807 then (some (((⟨#[27, 91, 62]⟩ : ByteArray) ++ t209) ++ (⟨#[109]⟩ : ByteArray))) else (none)) else (none)) = some r := H
        have A8 := Aside0.mk A80
        clear A80
        by_cases c9 : 3 + t209.size ≤ 9223372036854775807
        · rw [if_pos c9] at H
          have c9b0 := eq_true c9
          have c9b1 : decide (3 + t209.size ≤ 9223372036854775807) = true := decide_eq_true c9
          try have c9b2 : (9223372036854775807 < 3 + t209.size) = False := eq_false (Nat.not_lt.2 c9)
          by_cases c10 : 3 + t209.size + 1 ≤ 9223372036854775807
          · rw [if_pos c10] at H
            have c10b0 := eq_true c10
            have c10b1 : decide (3 + t209.size + 1 ≤ 9223372036854775807) = true := decide_eq_true c10
            try have c10b2 : (9223372036854775807 < 3 + t209.size + 1) = False := eq_false (Nat.not_lt.2 c10)
            obtain rfl := Option.some.inj H
            go_wp2_with (first | ((with_reducible refine gate_callee (f := 109) rfl ?_); refine goesL_ (some 16) rfl rfl Tryd.func109 (by kernel_rfl) rfl #[.int .i64 a0] rfl (by (try simp only [List.map_toArray, List.map_cons, List.map_nil]); first | done | rfl | (simp only [List.length_drop, List.length_take]; rfl) | (simp [Act.eval, *]; done)) ?_; (with_reducible refine (strconv_Itoa.calls a0 t209 _ ?side1 A8.out).mono ?_); (case side1 => exact HLD.out.below (by repeat (first | (with_reducible first | exact HB.out | apply below_alloc | apply Ext.below_bytes | apply pw_below_drewN | apply below_drew1) | exact HB.out))); rintro e w11 ⟨rfl, hb⟩; refine ⟨_, rfl, ?_⟩; have n0_ := Aside0.mk (below_step (by repeat (first | (with_reducible first | exact HB.out | apply below_alloc | apply Ext.below_bytes | apply pw_below_drewN | apply below_drew1) | exact HB.out)) hb); clear HB; have HB := n0_; clear n0_; (try clear hb); (try clear hb2); (try clear hk); (try clear hi)))
            go_ret
            exact ⟨by first | rfl | (simp [errW_none, errW_some] <;> rfl) | (simp [*, errW_none, errW_some] <;> rfl), by repeat (first | (with_reducible first | exact HB.out | apply below_alloc | apply Ext.below_bytes | apply pw_below_drewN | apply below_drew1) | exact HB.out)⟩
          · rw [if_neg c10] at H
            exact absurd H (by simp)
        · rw [if_neg c9] at H
          exact absurd H (by simp)
      · rw [if_neg c7] at H
        have c7b0 : ((l1.length : Int) == 0) = false := beq_eq_false_iff_ne.mpr c7
        have c7b1 : ((l1.length : Int) != 0) = true := bne_iff_ne.mpr c7
        have c7b2 : ¬ (l1 = []) := fun h_ => c7 (by rw [h_]; rfl)
        by_cases c12 : 0 < (l1.length : Int)
        · rw [if_pos c12] at H
          have c12b0 : decide (0 < (l1.length : Int)) = true := decide_eq_true c12
          have c12b1 : decide (0 < l1.length) = true := decide_eq_true (by omega)
          clear c12
          by_cases c13 : (rd l1 0) > 0
          · rw [if_pos c13] at H
            have c13b0 : decide (0 < (rd l1 0)) = true := decide_eq_true c13
            clear c13
            replace H := Option.bind_eq_some_iff.mp H
            obtain ⟨t211, A140, H⟩ := H
            replace H : (if 3 + x5_2.size ≤ 9223372036854775807 then (if 3 + x5_2.size + 1 ≤ 9223372036854775807 then (if 3 + x5_2.size + 1 + t211.size ≤ 9223372036854775807 then (if 3 + x5_2.size + 1 + t211.size + 1 ≤ 9223372036854775807 then (some (((((⟨#[27, 91, 62]⟩ : ByteArray) ++ x5_2) ++ (⟨#[59]⟩ : ByteArray)) ++ t211) ++ (⟨#[109]⟩ : ByteArray))) else (none)) else (none)) else (none)) else (none)) = some r := H
            have A14 := Aside0.mk A140
            clear A140
            by_cases c15 : 3 + x5_2.size ≤ 9223372036854775807
            · rw [if_pos c15] at H
              have c15b0 := eq_true c15
              have c15b1 : decide (3 + x5_2.size ≤ 9223372036854775807) = true := decide_eq_true c15
              try have c15b2 : (9223372036854775807 < 3 + x5_2.size) = False := eq_false (Nat.not_lt.2 c15)
              by_cases c16 : 3 + x5_2.size + 1 ≤ 9223372036854775807
              · rw [if_pos c16] at H
                have c16b0 := eq_true c16
                have c16b1 : decide (3 + x5_2.size + 1 ≤ 9223372036854775807) = true := decide_eq_true c16
                try have c16b2 : (9223372036854775807 < 3 + x5_2.size + 1) = False := eq_false (Nat.not_lt.2 c16)
                by_cases c17 : 3 + x5_2.size + 1 + t211.size ≤ 9223372036854775807
                · rw [if_pos c17] at H
                  have c17b0 := eq_true c17
                  have c17b1 : decide (3 + x5_2.size + 1 + t211.size ≤ 9223372036854775807) = true := decide_eq_true c17
                  try have c17b2 : (9223372036854775807 < 3 + x5_2.size + 1 + t211.size) = False := eq_false (Nat.not_lt.2 c17)
                  by_cases c18 : 3 + x5_2.size + 1 + t211.size + 1 ≤ 9223372036854775807
                  · rw [if_pos c18] at H
                    have c18b0 := eq_true c18
                    have c18b1 : decide (3 + x5_2.size + 1 + t211.size + 1 ≤ 9223372036854775807) = true := decide_eq_true c18
                    try have c18b2 : (9223372036854775807 < 3 + x5_2.size + 1 + t211.size + 1) = False := eq_false (Nat.not_lt.2 c18)
                    obtain rfl := Option.some.inj H
                    have p210 : 0 ≤ (0 : Int) := (by omega)
                    have q210 : 0 < (l1.length : Int) := of_decide_eq_true (by first | (with_reducible assumption) | assumption)
                    obtain ⟨ad210, e210, hx210_0⟩ := Kd.at_int HR1.out 0 p210 q210
                    cases e210
                    have qi210 : (0 < l1.length) = True := eq_true (by omega)
                    (try rw [show ((0 : Int)).toNat = 0 from rfl] at hx210_0)
                    (try rw [Addr.add_zero'] at hx210_0)
                    replace hx210_0 := (HB.out.cell (World.block_lt_of_cell? w _ hx210_0)).trans hx210_0
                    replace p210 := eq_true p210
                    replace q210 := eq_true q210
                    go_wp2_with (first | ((with_reducible refine gate_callee (f := 109) rfl ?_); refine goesL_ (some 25) rfl rfl Tryd.func109 (by kernel_rfl) rfl #[.int .i64 (rd l1 0)] rfl (by (try simp only [List.map_toArray, List.map_cons, List.map_nil]); first | done | rfl | (simp only [List.length_drop, List.length_take]; rfl) | (simp [Act.eval, *]; done)) ?_; (with_reducible refine (strconv_Itoa.calls (rd l1 0) t211 _ ?side1 A14.out).mono ?_); (case side1 => exact HLD.out.below (by repeat (first | (with_reducible first | exact HB.out | apply below_alloc | apply Ext.below_bytes | apply pw_below_drewN | apply below_drew1) | exact HB.out))); rintro e w19 ⟨rfl, hb⟩; refine ⟨_, rfl, ?_⟩; have n0_ := Aside0.mk (below_step (by repeat (first | (with_reducible first | exact HB.out | apply below_alloc | apply Ext.below_bytes | apply pw_below_drewN | apply below_drew1) | exact HB.out)) hb); clear HB; have HB := n0_; clear n0_; (try clear hb); (try clear hb2); (try clear hk); (try clear hi)))
                    go_ret
                    exact ⟨by first | rfl | (simp [errW_none, errW_some] <;> rfl) | (simp [*, errW_none, errW_some] <;> rfl), by repeat (first | (with_reducible first | exact HB.out | apply below_alloc | apply Ext.below_bytes | apply pw_below_drewN | apply below_drew1) | exact HB.out)⟩
                  · rw [if_neg c18] at H
                    exact absurd H (by simp)
                · rw [if_neg c17] at H
                  exact absurd H (by simp)
              · rw [if_neg c16] at H
                exact absurd H (by simp)
            · rw [if_neg c15] at H
              exact absurd H (by simp)
          · rw [if_neg c13] at H
            have c13b0 : decide (0 < (rd l1 0)) = false := decide_eq_false c13
            clear c13
            by_cases c20 : 3 + x5_2.size ≤ 9223372036854775807
            · rw [if_pos c20] at H
              have c20b0 := eq_true c20
              have c20b1 : decide (3 + x5_2.size ≤ 9223372036854775807) = true := decide_eq_true c20
              try have c20b2 : (9223372036854775807 < 3 + x5_2.size) = False := eq_false (Nat.not_lt.2 c20)
              by_cases c21 : 3 + x5_2.size + 1 ≤ 9223372036854775807
              · rw [if_pos c21] at H
                have c21b0 := eq_true c21
                have c21b1 : decide (3 + x5_2.size + 1 ≤ 9223372036854775807) = true := decide_eq_true c21
                try have c21b2 : (9223372036854775807 < 3 + x5_2.size + 1) = False := eq_false (Nat.not_lt.2 c21)
                obtain rfl := Option.some.inj H
                have p210 : 0 ≤ (0 : Int) := (by omega)
                have q210 : 0 < (l1.length : Int) := of_decide_eq_true (by first | (with_reducible assumption) | assumption)
                obtain ⟨ad210, e210, hx210_0⟩ := Kd.at_int HR1.out 0 p210 q210
                cases e210
                have qi210 : (0 < l1.length) = True := eq_true (by omega)
                (try rw [show ((0 : Int)).toNat = 0 from rfl] at hx210_0)
                (try rw [Addr.add_zero'] at hx210_0)
                replace hx210_0 := (HB.out.cell (World.block_lt_of_cell? w _ hx210_0)).trans hx210_0
                replace p210 := eq_true p210
                replace q210 := eq_true q210
                go_wp2
                go_ret
                exact ⟨by first | rfl | (simp [errW_none, errW_some] <;> rfl) | (simp [*, errW_none, errW_some] <;> rfl), by repeat (first | (with_reducible first | exact HB.out | apply below_alloc | apply Ext.below_bytes | apply pw_below_drewN | apply below_drew1) | exact HB.out)⟩
              · rw [if_neg c21] at H
                exact absurd H (by simp)
            · rw [if_neg c20] at H
              exact absurd H (by simp)
        · rw [if_neg c12] at H
          exact absurd H (by simp)

end Go.Proofs.YtplmmblofhhikaaDoor.PM
