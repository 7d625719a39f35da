-- Written by wip/pp.py, a program of this session, out of the translation. Not trusted: Lean checks it.
import Derived.Test.YtplmmblofhhikaaDoorPMx0
namespace Go.Proofs.YtplmmblofhhikaaDoor.PM
open Go.RowKit Go.Proofs.YtplmmblofhhikaaDoor.Or Go.Proofs.YtplmmblofhhikaaDoorW.PrintWords Go.Proofs.YtplmmblofhhikaaDoorW.PrintLast Go.Proofs.YtplmmblofhhikaaDoorW.PrintMore
attribute [local go_sem] max2_int min2_int max_two min_two max_three min_three max_four min_four   -- for this text's walks alone
attribute [local go_sem] Ext.wrap64_mod256 Ext.wrap64_mod32 Ext.i64_mod256 Ext.i64_mod32 Ext.i64_u8 Ext.w64_u8 Ext.i64_u32 Ext.w64_u32 
attribute [-simp] List.drop_one List.length_drop   -- a list that is cut keeps its form
set_option linter.unusedVariables false
set_option linter.unusedSimpArgs false

/-! ### spec_Digits: function 71 -/
def spec_Digits.f : Nat → Int → Option (ByteArray)
  | 0, _ => none
  | k + 1, a0 => if a0 < 0 then (if a0 = (-9223372036854775808) then (some (⟨#[45, 57, 50, 50, 51, 51, 55, 50, 48, 51, 54, 56, 53, 52, 55, 55, 53, 56, 48, 56]⟩ : ByteArray)) else ((spec_Digits.f k (wrap64 (-a0))).bind fun t250 => (if 1 + t250.size ≤ 9223372036854775807 then (some ((⟨#[45]⟩ : ByteArray) ++ t250)) else (none)))) else (if a0 < 10 then (some (strOfNums (([(wrap64 (48 + a0)) % 256] : List Int)))) else ((spec_Digits.f k (wrap64 (Int.tdiv a0 10))).bind fun t254 => ((spec_Digits.f k (Int.tmod a0 10)).bind fun t255 => (if t254.size + t255.size ≤ 9223372036854775807 then (some (t254 ++ t255)) else (none)))))
theorem spec_Digits.mono_l : ∀ k, (∀ y0, LeO (spec_Digits.f k y0) (spec_Digits.f (k + 1) y0))
  | 0 => fun _ r h => by simp [spec_Digits.f] at h
  | k + 1 => by
    have ih0 := spec_Digits.mono_l k
    · intro y0
      unfold spec_Digits.f
      repeat' first
      | (with_reducible exact ih0 _)
      | (with_reducible exact LeO.refl _)
      | (with_reducible exact LeO.none _)
      | (with_reducible refine LeO.ite ?_ ?_)
      | (with_reducible refine LeO.bind ?_ (fun _ => ?_))
      | exact ih0 _
      | exact LeO.none _
      | refine LeO.ite ?_ ?_
      | refine LeO.bind ?_ (fun _ => ?_)
theorem spec_Digits.mono : ∀ a0 k, LeO (spec_Digits.f k a0) (spec_Digits.f (k + 1) a0) := by
  intro a0 k
  have ih0 := spec_Digits.mono_l k
  exact ih0 a0
set_option maxHeartbeats 8000000 in
set_option maxRecDepth 100000 in
theorem spec_Digits.calls (k : Nat) : ∀ (a0 : Int) (r : ByteArray) (w : World) (h : spec_Digits.f k a0 = some r),
    Calls Tryd.prog 71 #[.int .i64 a0] w fun e w' => e = .returned (.string r) ∧ Below w.heap.size w w' := by
  induction k using Nat.strongRecOn with
  | _ k ih =>
  intro a0 r w h
  cases k with
  | zero => exact absurd h (by simp [spec_Digits.f])
  | succ k =>
  simp only [spec_Digits.f] at h
  have HB := Aside0.mk (Below.refl w.heap.size w)
  have H : (if a0 < 0 then (if a0 = (-9223372036854775808) then (some (⟨#[45, 57, 50, 50, 51, 51, 55, 50, 48, 51, 54, 56, 53, 52, 55, 55, 53, 56, 48, 56]⟩ : ByteArray)) else ((spec_Digits.f k (wrap64 (-a0))).bind fun t250 => (if 1 + t250.size ≤ 9223372036854775807 then (some ((⟨#[45]⟩ : ByteArray) ++ t250)) else (none)))) else (if a0 < 10 then (some (strOfNums (([(wrap64 (48 + a0)) % 256] : List Int)))) else ((spec_Digits.f k (wrap64 (Int.tdiv a0 10))).bind fun t254 => ((spec_Digits.f k (Int.tmod a0 10)).bind fun t255 => (if t254.size + t255.size ≤ 9223372036854775807 then (some (t254 ++ t255)) else (none)))))) = some r := h
  clear h
  by_cases c2 : a0 < 0
  · rw [if_pos c2] at H
    have c2b0 : decide (a0 < 0) = true := decide_eq_true c2
    clear c2
    by_cases c3 : a0 = (-9223372036854775808)
    · rw [if_pos c3] at H
      have c3b0 : (a0 == (-9223372036854775808)) = true := beq_iff_eq.mpr c3
      have c3b1 : (a0 != (-9223372036854775808)) = false := bne_eq_false_iff_eq.mpr c3
      clear c3
      obtain rfl := Option.some.inj H
      go_enter Tryd.func71, Tryd.ntmps71
      go_wp2
      go_ret
      exact ⟨by first | rfl | (simp [errW_none, errW_some] <;> rfl) | (simp [*, errW_none, errW_some] <;> rfl), by repeat (first | (with_reducible first | exact HB.out | apply below_alloc | apply Ext.below_bytes | apply pw_below_drewN | apply below_drew1) | exact HB.out)⟩
    · rw [if_neg c3] at H
      have c3b0 : (a0 == (-9223372036854775808)) = false := beq_eq_false_iff_ne.mpr c3
      have c3b1 : (a0 != (-9223372036854775808)) = true := bne_iff_ne.mpr c3
      replace H := Option.bind_eq_some_iff.mp H
      obtain ⟨t250, A40, H⟩ := H
      replace H : (if 1 + t250.size ≤ 9223372036854775807 then (some ((⟨#[45]⟩ : ByteArray) ++ t250)) else (none)) = some r := H
      have A4 := Aside0.mk A40
      clear A40
      by_cases c5 : 1 + t250.size ≤ 9223372036854775807
      · rw [if_pos c5] at H
        have c5b0 := eq_true c5
        have c5b1 : decide (1 + t250.size ≤ 9223372036854775807) = true := decide_eq_true c5
        try have c5b2 : (9223372036854775807 < 1 + t250.size) = False := eq_false (Nat.not_lt.2 c5)
        obtain rfl := Option.some.inj H
        go_enter Tryd.func71, Tryd.ntmps71
        go_wp2_with (first | ((with_reducible refine gate_callee (f := 71) rfl ?_); refine goesL_ (some 9) rfl rfl Tryd.func71 (by kernel_rfl) rfl #[.int .i64 (wrap64 (-a0))] rfl (by (try simp only [List.map_toArray, List.map_cons, List.map_nil]); first | done | rfl | (simp only [List.length_drop, List.length_take]; rfl) | (simp [Act.eval, *]; done)) ?_; (with_reducible refine (ih k (by omega) (wrap64 (-a0)) t250 _ A4.out).mono ?_); rintro e w6 ⟨rfl, hb⟩; refine ⟨_, rfl, ?_⟩; have n0_ := Aside0.mk (below_step (by repeat (first | (with_reducible first | exact HB.out | apply below_alloc | apply Ext.below_bytes | apply pw_below_drewN | apply below_drew1) | exact HB.out)) hb); clear HB; have HB := n0_; clear n0_; (try clear hb); (try clear hb2); (try clear hk); (try clear hi)))
        go_ret
        exact ⟨by first | rfl | (simp [errW_none, errW_some] <;> rfl) | (simp [*, errW_none, errW_some] <;> rfl), by repeat (first | (with_reducible first | exact HB.out | apply below_alloc | apply Ext.below_bytes | apply pw_below_drewN | apply below_drew1) | exact HB.out)⟩
      · rw [if_neg c5] at H
        exact absurd H (by simp)
  · rw [if_neg c2] at H
    have c2b0 : decide (a0 < 0) = false := decide_eq_false c2
    clear c2
    by_cases c7 : a0 < 10
    · rw [if_pos c7] at H
      have c7b0 : decide (a0 < 10) = true := decide_eq_true c7
      clear c7
      obtain ⟨y251, hy251⟩ : ∃ y_ : List Int, y_ = (([(wrap64 (48 + a0)) % 256] : List Int)) := ⟨_, rfl⟩
      replace H : (some (strOfNums y251)) = some r := by first | (rw [hy251]; with_reducible exact H) | (have H2_ := (Option.bind_some _ _).symm.trans H; rw [hy251]; with_reducible exact H2_) | (have H2_ := (Option.bind_some _ _).symm.trans H; with_reducible exact H2_) | with_reducible exact H | (rw [hy251]; exact H) | exact H
      have Ny251 := Aside0.mk hy251
      clear hy251
      obtain rfl := Option.some.inj H
      go_enter Tryd.func71, Tryd.ntmps71
      go_wp2_with (first | ((with_reducible refine gate_dst (N := 16) rfl ?_); refine Kd.R_lit (Kd.int .u8) _ 5 ?hg (N := 16) ?hd (xs := ([(wrap64 (48 + a0)) % 256] : List Int)) (inner := [.int .u8 ((wrap64 (48 + a0)) % 256)]) (ok := fun _ => True) (okp := fun _ => True) ?hr ?hp (fun _ hk => hk) trivial (Below.refl _ _) (Nat.le_refl _) (by simp) ?_; (case hd => rfl); (case hg => rfl); (case hr => first | (go_simp; done) | (go_simp; rfl)); (case hp => exact (Reps.one (show Kd.M (Kd.int .u8) _ _ _ ((wrap64 (48 + a0)) % 256) [.int .u8 ((wrap64 (48 + a0)) % 256)] from rfl) (Reps.none _ _))); intro v252 w8 ho9 hb hg_ hnew_; clear hg_ hnew_; (first | rw [← Ny251.out] at ho9 | (simp only [Int.reduceToNat] at ho9; rw [← Ny251.out] at ho9)); have n0_ := Aside0.mk (Kd.R_lower ho9 (below_size (by repeat (first | (with_reducible first | exact HB.out | apply below_alloc | apply Ext.below_bytes | apply pw_below_drewN | apply below_drew1) | exact HB.out)))); have n1_ := Aside0.mk (below_step (by repeat (first | (with_reducible first | exact HB.out | apply below_alloc | apply Ext.below_bytes | apply pw_below_drewN | apply below_drew1) | exact HB.out)) hb); clear HB; have HO253 := n0_; have HB := n1_; clear n0_ n1_; clear hb ho9; have hcv10 := own_string (P := Tryd.prog) Tryd.underlying30 Tryd.underlying5 Tryd.underlying9 (Kd.own_of_R HO253.out)))
      go_ret
      exact ⟨by first | rfl | (simp [errW_none, errW_some] <;> rfl) | (simp [*, errW_none, errW_some] <;> rfl), by repeat (first | (with_reducible first | exact HB.out | apply below_alloc | apply Ext.below_bytes | apply pw_below_drewN | apply below_drew1) | exact HB.out)⟩
    · rw [if_neg c7] at H
      have c7b0 : decide (a0 < 10) = false := decide_eq_false c7
      clear c7
      replace H := Option.bind_eq_some_iff.mp H
      obtain ⟨t254, A110, H⟩ := H
      replace H : ((spec_Digits.f k (Int.tmod a0 10)).bind fun t255 => (if t254.size + t255.size ≤ 9223372036854775807 then (some (t254 ++ t255)) else (none))) = some r := H
      have A11 := Aside0.mk A110
      clear A110
      replace H := Option.bind_eq_some_iff.mp H
      obtain ⟨t255, A120, H⟩ := H
      replace H : (if t254.size + t255.size ≤ 9223372036854775807 then (some (t254 ++ t255)) else (none)) = some r := H
      have A12 := Aside0.mk A120
      clear A120
      by_cases c13 : t254.size + t255.size ≤ 9223372036854775807
      · rw [if_pos c13] at H
        have c13b0 := eq_true c13
        have c13b1 : decide (t254.size + t255.size ≤ 9223372036854775807) = true := decide_eq_true c13
        try have c13b2 : (9223372036854775807 < t254.size + t255.size) = False := eq_false (Nat.not_lt.2 c13)
        obtain rfl := Option.some.inj H
        go_enter Tryd.func71, Tryd.ntmps71
        go_wp2_with (first | ((with_reducible refine gate_callee (f := 71) rfl ?_); refine goesL_ (some 20) rfl rfl Tryd.func71 (by kernel_rfl) rfl #[.int .i64 (wrap64 (Int.tdiv a0 10))] rfl (by (try simp only [List.map_toArray, List.map_cons, List.map_nil]); first | done | rfl | (simp only [List.length_drop, List.length_take]; rfl) | (simp [Act.eval, *]; done)) ?_; (with_reducible refine (ih k (by omega) (wrap64 (Int.tdiv a0 10)) t254 _ A11.out).mono ?_); rintro e w14 ⟨rfl, hb⟩; refine ⟨_, rfl, ?_⟩; have n0_ := Aside0.mk (below_step (by repeat (first | (with_reducible first | exact HB.out | apply below_alloc | apply Ext.below_bytes | apply pw_below_drewN | apply below_drew1) | exact HB.out)) hb); clear HB; have HB := n0_; clear n0_; (try clear hb); (try clear hb2); (try clear hk); (try clear hi)) | ((with_reducible refine gate_callee (f := 71) rfl ?_); refine goesL_ (some 23) rfl rfl Tryd.func71 (by kernel_rfl) rfl #[.int .i64 (Int.tmod a0 10)] rfl (by (try simp only [List.map_toArray, List.map_cons, List.map_nil]); first | done | rfl | (simp only [List.length_drop, List.length_take]; rfl) | (simp [Act.eval, *]; done)) ?_; (with_reducible refine (ih k (by omega) (Int.tmod a0 10) t255 _ A12.out).mono ?_); rintro e w15 ⟨rfl, hb⟩; refine ⟨_, rfl, ?_⟩; have n0_ := Aside0.mk (below_step (by repeat (first | (with_reducible first | exact HB.out | apply below_alloc | apply Ext.below_bytes | apply pw_below_drewN | apply below_drew1) | exact HB.out)) hb); clear HB; have HB := n0_; clear n0_; (try clear hb); (try clear hb2); (try clear hk); (try clear hi)))
        go_ret
        exact ⟨by first | rfl | (simp [errW_none, errW_some] <;> rfl) | (simp [*, errW_none, errW_some] <;> rfl), by repeat (first | (with_reducible first | exact HB.out | apply below_alloc | apply Ext.below_bytes | apply pw_below_drewN | apply below_drew1) | exact HB.out)⟩
      · rw [if_neg c13] at H
        exact absurd H (by simp)

/-! ### spec_madeAbove: function 72 -/
def spec_madeAbove.f (k : Nat) (a0 : Int) (a1 : Int) : Option (ByteArray) := if a0 ≤ a1 then (some (⟨#[]⟩ : ByteArray)) else ((spec_Digits.f k a0).bind fun t256 => (some t256))
theorem spec_madeAbove.mono : ∀ a0 a1 k, LeO (spec_madeAbove.f k a0 a1) (spec_madeAbove.f (k + 1) a0 a1) := by
  intro a0 a1 k
  unfold spec_madeAbove.f
  repeat' first
      | (with_reducible exact spec_Digits.mono _ _)
      | (with_reducible exact LeO.refl _)
      | (with_reducible exact LeO.none _)
      | (with_reducible refine LeO.ite ?_ ?_)
      | (with_reducible refine LeO.bind ?_ (fun _ => ?_))
      | exact spec_Digits.mono _ _
      | exact LeO.none _
      | refine LeO.ite ?_ ?_
      | refine LeO.bind ?_ (fun _ => ?_)
set_option maxHeartbeats 8000000 in
set_option maxRecDepth 100000 in
theorem spec_madeAbove.calls (k : Nat) (a0 : Int) (a1 : Int) (r : ByteArray) (w : World) (h : spec_madeAbove.f k a0 a1 = some r) :
    Calls Tryd.prog 72 #[.int .i64 a0, .int .i64 a1] w fun e w' => e = .returned (.string r) ∧ Below w.heap.size w w' := by
  have HB := Aside0.mk (Below.refl w.heap.size w)
  have H : (if a0 ≤ a1 then (some (⟨#[]⟩ : ByteArray)) else ((spec_Digits.f k a0).bind fun t256 => (some t256))) = some r := h
  clear h
  by_cases c3 : a0 ≤ a1
  · rw [if_pos c3] at H
    have c3b0 : decide (a0 ≤ a1) = true := decide_eq_true c3
    clear c3
    obtain rfl := Option.some.inj H
    go_enter Tryd.func72, Tryd.ntmps72
    go_wp2
    go_ret
    exact ⟨by first | rfl | (simp [errW_none, errW_some] <;> rfl) | (simp [*, errW_none, errW_some] <;> rfl), by repeat (first | (with_reducible first | exact HB.out | apply below_alloc | apply Ext.below_bytes | apply pw_below_drewN | apply below_drew1) | exact HB.out)⟩
  · rw [if_neg c3] at H
    have c3b0 : decide (a0 ≤ a1) = false := decide_eq_false c3
    clear c3
    replace H := Option.bind_eq_some_iff.mp H
    obtain ⟨t256, A40, H⟩ := H
    replace H : (some t256) = some r := H
    have A4 := Aside0.mk A40
    clear A40
    obtain rfl := Option.some.inj H
    go_enter Tryd.func72, Tryd.ntmps72
    go_wp2_with (first | ((with_reducible refine gate_callee (f := 71) rfl ?_); refine goesL_ (some 9) rfl rfl Tryd.func71 (by kernel_rfl) rfl #[.int .i64 a0] rfl (by (try simp only [List.map_toArray, List.map_cons, List.map_nil]); first | done | rfl | (simp only [List.length_drop, List.length_take]; rfl) | (simp [Act.eval, *]; done)) ?_; (with_reducible refine (spec_Digits.calls k a0 t256 _ A4.out).mono ?_); rintro e w5 ⟨rfl, hb⟩; refine ⟨_, rfl, ?_⟩; have n0_ := Aside0.mk (below_step (by repeat (first | (with_reducible first | exact HB.out | apply below_alloc | apply Ext.below_bytes | apply pw_below_drewN | apply below_drew1) | exact HB.out)) hb); clear HB; have HB := n0_; clear n0_; (try clear hb); (try clear hb2); (try clear hk); (try clear hi)))
    go_ret
    exact ⟨by first | rfl | (simp [errW_none, errW_some] <;> rfl) | (simp [*, errW_none, errW_some] <;> rfl), by repeat (first | (with_reducible first | exact HB.out | apply below_alloc | apply Ext.below_bytes | apply pw_below_drewN | apply below_drew1) | exact HB.out)⟩

/-! ### spec_madeJoined: function 113 -/
def spec_madeJoined.l0 : Nat → ByteArray → ByteArray → List ByteArray → Int → Int → Option (ByteArray)
  | 0, _, _, _, _, _ => none
  | k + 1, x1, x5, x8, x9, x10 => if x10 < x9 then (if 0 ≤ x10 then (if x10 < (x8.length : Int) then (if x10 > 0 then (if x5.size + x1.size ≤ 9223372036854775807 then (if x5.size + x1.size + (rdOf ByteArray.empty x8 x10).size ≤ 9223372036854775807 then (spec_madeJoined.l0 k x1 ((x5 ++ x1) ++ (rdOf ByteArray.empty x8 x10)) x8 x9 (wrap64 (x10 + 1))) else (none)) else (none)) else (if x5.size + (rdOf ByteArray.empty x8 x10).size ≤ 9223372036854775807 then (spec_madeJoined.l0 k x1 (x5 ++ (rdOf ByteArray.empty x8 x10)) x8 x9 (wrap64 (x10 + 1))) else (none))) else (none)) else (none)) else (some x5)
def spec_madeJoined.f (k : Nat) (l0 : List ByteArray) (a1 : ByteArray) : Option (ByteArray) := spec_madeJoined.l0 k a1 (⟨#[]⟩ : ByteArray) l0 (l0.length : Int) 0
theorem spec_madeJoined.mono_l : ∀ k, (∀ y0 y1 y2 y3 y4, LeO (spec_madeJoined.l0 k y0 y1 y2 y3 y4) (spec_madeJoined.l0 (k + 1) y0 y1 y2 y3 y4))
  | 0 => fun _ _ _ _ _ r h => by simp [spec_madeJoined.l0] at h
  | k + 1 => by
    have ih0 := spec_madeJoined.mono_l k
    · intro y0 y1 y2 y3 y4
      unfold spec_madeJoined.l0
      repeat' first
      | (with_reducible exact ih0 _ _ _ _ _)
      | (with_reducible exact LeO.refl _)
      | (with_reducible exact LeO.none _)
      | (with_reducible refine LeO.ite ?_ ?_)
      | (with_reducible refine LeO.bind ?_ (fun _ => ?_))
      | exact ih0 _ _ _ _ _
      | exact LeO.none _
      | refine LeO.ite ?_ ?_
      | refine LeO.bind ?_ (fun _ => ?_)
theorem spec_madeJoined.mono : ∀ a0 a1 k, LeO (spec_madeJoined.f k a0 a1) (spec_madeJoined.f (k + 1) a0 a1) := by
  intro a0 a1 k
  have ih0 := spec_madeJoined.mono_l k
  unfold spec_madeJoined.f
  repeat' first
      | (with_reducible exact ih0 _ _ _ _ _)
      | (with_reducible exact LeO.refl _)
      | (with_reducible exact LeO.none _)
      | (with_reducible refine LeO.ite ?_ ?_)
      | (with_reducible refine LeO.bind ?_ (fun _ => ?_))
      | exact ih0 _ _ _ _ _
      | exact LeO.none _
      | refine LeO.ite ?_ ?_
      | refine LeO.bind ?_ (fun _ => ?_)
set_option maxHeartbeats 8000000 in
set_option maxRecDepth 100000 in
theorem spec_madeJoined.calls (k : Nat) (A0 : Option Addr) (c0 : Nat) (l0 : List ByteArray) (a1 : ByteArray) (r : ByteArray) (w : World) (hr0 : Kd.C Kd.string w A0 l0.length l0) (hc0 : l0.length ≤ c0) (h : spec_madeJoined.f k l0 a1 = some r) :
    Calls Tryd.prog 113 #[.slice A0 l0.length c0, .string a1] w fun e w' => e = .returned (.string r) ∧ Drawn0 w w' := by
  have HR0 := Aside0.mk hr0
  have HC0 := Aside0.mk hc0
  clear hr0 hc0
  have H : (spec_madeJoined.l0 k a1 (⟨#[]⟩ : ByteArray) l0 (l0.length : Int) 0) = some r := h
  clear h
  have H' := Aside0.mk H
  clear H
  go_enter Tryd.func113, Tryd.ntmps113
  go_wp2
  go_loopg [5, 10] k (fun kq v5 v10 w' => ∃ (x5_1 : ByteArray) (x10_1 : Int), v5 = .string x5_1 ∧ v10 = .int .i64 x10_1 ∧ Aside0 (spec_madeJoined.l0 kq a1 x5_1 l0 (l0.length : Int) x10_1 = some r) ∧ Aside0 (kq ≤ k) ∧ Drawn0 w w')
  case atStart => exact ⟨((⟨#[]⟩ : ByteArray)), (0), (by first | rfl | (simp; done) | (simp [*]; done)), (by first | rfl | (simp; done) | (simp [*]; done)), H', ⟨Nat.le_refl _⟩, by repeat (first | exact Drawn0.refl _ | apply Drawn0.step)⟩
  case round =>
    clear H'
    try clear c1
    try clear p2
    obtain ⟨x5_1, x10_1, rfl, rfl, HA, HK1, ⟨m1, rfl⟩⟩ := hrel
    cases gk with
    | zero => exact absurd HA.out (by simp [spec_madeJoined.l0])
    | succ k1 =>
      have H := HA.out
      clear HA
      simp only [spec_madeJoined.l0] at H
      by_cases c3 : x10_1 < (l0.length : Int)
      · rw [if_pos c3] at H
        have c3b0 : decide (x10_1 < (l0.length : Int)) = true := decide_eq_true c3
        clear c3
        by_cases c4 : 0 ≤ x10_1
        · rw [if_pos c4] at H
          have c4b0 : decide (0 ≤ x10_1) = true := decide_eq_true c4
          clear c4
          by_cases c5 : x10_1 < (l0.length : Int)
          · rw [if_pos c5] at H
            have c5b0 : decide (x10_1 < (l0.length : Int)) = true := decide_eq_true c5
            clear c5
            by_cases c6 : x10_1 > 0
            · rw [if_pos c6] at H
              have c6b0 : decide (0 < x10_1) = true := decide_eq_true c6
              clear c6
              by_cases c7 : x5_1.size + a1.size ≤ 9223372036854775807
              · rw [if_pos c7] at H
                have c7b0 := eq_true c7
                have c7b1 : decide (x5_1.size + a1.size ≤ 9223372036854775807) = true := decide_eq_true c7
                try have c7b2 : (9223372036854775807 < x5_1.size + a1.size) = False := eq_false (Nat.not_lt.2 c7)
                by_cases c8 : x5_1.size + a1.size + (rdOf ByteArray.empty l0 x10_1).size ≤ 9223372036854775807
                · rw [if_pos c8] at H
                  have c8b0 := eq_true c8
                  have c8b1 : decide (x5_1.size + a1.size + (rdOf ByteArray.empty l0 x10_1).size ≤ 9223372036854775807) = true := decide_eq_true c8
                  try have c8b2 : (9223372036854775807 < x5_1.size + a1.size + (rdOf ByteArray.empty l0 x10_1).size) = False := eq_false (Nat.not_lt.2 c8)
                  have H' := Aside0.mk H
                  clear H
                  have p257 : 0 ≤ (x10_1 : Int) := of_decide_eq_true (by first | (with_reducible assumption) | assumption)
                  have q257 : x10_1 < (l0.length : Int) := of_decide_eq_true (by first | (with_reducible assumption) | assumption)
                  obtain ⟨ad257, e257, hx257_0⟩ := Kd.at_string HR0.out x10_1 p257 q257
                  cases e257
                  replace p257 := eq_true p257
                  replace q257 := eq_true q257
                  go_wp2
                  go_roundg k1
                  case measure => have := HK1.out; omega
                  case rel => exact ⟨((x5_1 ++ a1) ++ (rdOf ByteArray.empty l0 x10_1)), (wrap64 (x10_1 + 1)), (by first | rfl | (simp; done) | (simp [*]; done)), (by first | rfl | (simp; done) | (simp [*]; done)), H', ⟨by have := HK1.out; omega⟩, by repeat (first | exact Drawn0.refl _ | apply Drawn0.step)⟩
                · rw [if_neg c8] at H
                  exact absurd H (by simp)
              · rw [if_neg c7] at H
                exact absurd H (by simp)
            · rw [if_neg c6] at H
              have c6b0 : decide (0 < x10_1) = false := decide_eq_false c6
              clear c6
              by_cases c9 : x5_1.size + (rdOf ByteArray.empty l0 x10_1).size ≤ 9223372036854775807
              · rw [if_pos c9] at H
                have c9b0 := eq_true c9
                have c9b1 : decide (x5_1.size + (rdOf ByteArray.empty l0 x10_1).size ≤ 9223372036854775807) = true := decide_eq_true c9
                try have c9b2 : (9223372036854775807 < x5_1.size + (rdOf ByteArray.empty l0 x10_1).size) = False := eq_false (Nat.not_lt.2 c9)
                have H' := Aside0.mk H
                clear H
                have p257 : 0 ≤ (x10_1 : Int) := of_decide_eq_true (by first | (with_reducible assumption) | assumption)
                have q257 : x10_1 < (l0.length : Int) := of_decide_eq_true (by first | (with_reducible assumption) | assumption)
                obtain ⟨ad257, e257, hx257_0⟩ := Kd.at_string HR0.out x10_1 p257 q257
                cases e257
                replace p257 := eq_true p257
                replace q257 := eq_true q257
                go_wp2
                go_roundg k1
                case measure => have := HK1.out; omega
                case rel => exact ⟨(x5_1 ++ (rdOf ByteArray.empty l0 x10_1)), (wrap64 (x10_1 + 1)), (by first | rfl | (simp; done) | (simp [*]; done)), (by first | rfl | (simp; done) | (simp [*]; done)), H', ⟨by have := HK1.out; omega⟩, by repeat (first | exact Drawn0.refl _ | apply Drawn0.step)⟩
              · rw [if_neg c9] at H
                exact absurd H (by simp)
          · rw [if_neg c5] at H
            exact absurd H (by simp)
        · rw [if_neg c4] at H
          exact absurd H (by simp)
      · rw [if_neg c3] at H
        have c3b0 : decide (x10_1 < (l0.length : Int)) = false := decide_eq_false c3
        clear c3
        obtain rfl := Option.some.inj H
        go_wp2
        go_ret
        exact ⟨by first | rfl | (simp; done) | (simp [*]; done), by repeat (first | exact Drawn0.refl _ | apply Drawn0.step)⟩

/-! ### spec_madeNumbers: function 93 -/
def spec_madeNumbers.l0 : Nat → ByteArray → List ByteArray → List Int → Int → Int → Option (ByteArray)
  | 0, _, _, _, _, _ => none
  | k + 1, x1, x5, x8, x9, x10 => if x10 < x9 then (if 0 ≤ x10 then (if x10 < (x8.length : Int) then ((spec_Digits.f k (rd x8 x10)).bind fun t259 => (if x5.length < 8796093022208 then (spec_madeNumbers.l0 k x1 (x5 ++ [t259]) x8 x9 (wrap64 (x10 + 1))) else (none))) else (none)) else (none)) else ((spec_madeJoined.f k x5 x1).bind fun t263 => (some t263))
def spec_madeNumbers.f (k : Nat) (l0 : List Int) (a1 : ByteArray) : Option (ByteArray) := spec_madeNumbers.l0 k a1 ([] : List ByteArray) l0 (l0.length : Int) 0
theorem spec_madeNumbers.mono_l : ∀ k, (∀ y0 y1 y2 y3 y4, LeO (spec_madeNumbers.l0 k y0 y1 y2 y3 y4) (spec_madeNumbers.l0 (k + 1) y0 y1 y2 y3 y4))
  | 0 => fun _ _ _ _ _ r h => by simp [spec_madeNumbers.l0] at h
  | k + 1 => by
    have ih0 := spec_madeNumbers.mono_l k
    · intro y0 y1 y2 y3 y4
      unfold spec_madeNumbers.l0
      repeat' first
      | (with_reducible exact ih0 _ _ _ _ _)
      | (with_reducible exact spec_Digits.mono _ _)
      | (with_reducible exact spec_madeJoined.mono _ _ _)
      | (with_reducible exact LeO.refl _)
      | (with_reducible exact LeO.none _)
      | (with_reducible refine LeO.ite ?_ ?_)
      | (with_reducible refine LeO.bind ?_ (fun _ => ?_))
      | exact ih0 _ _ _ _ _
      | exact spec_Digits.mono _ _
      | exact spec_madeJoined.mono _ _ _
      | exact LeO.none _
      | refine LeO.ite ?_ ?_
      | refine LeO.bind ?_ (fun _ => ?_)
theorem spec_madeNumbers.mono : ∀ a0 a1 k, LeO (spec_madeNumbers.f k a0 a1) (spec_madeNumbers.f (k + 1) a0 a1) := by
  intro a0 a1 k
  have ih0 := spec_madeNumbers.mono_l k
  unfold spec_madeNumbers.f
  repeat' first
      | (with_reducible exact ih0 _ _ _ _ _)
      | (with_reducible exact spec_Digits.mono _ _)
      | (with_reducible exact spec_madeJoined.mono _ _ _)
      | (with_reducible exact LeO.refl _)
      | (with_reducible exact LeO.none _)
      | (with_reducible refine LeO.ite ?_ ?_)
      | (with_reducible refine LeO.bind ?_ (fun _ => ?_))
      | exact ih0 _ _ _ _ _
      | exact spec_Digits.mono _ _
      | exact spec_madeJoined.mono _ _ _
      | exact LeO.none _
      | refine LeO.ite ?_ ?_
      | refine LeO.bind ?_ (fun _ => ?_)
set_option maxHeartbeats 8000000 in
set_option maxRecDepth 100000 in
theorem spec_madeNumbers.calls (k : Nat) (A0 : Option Addr) (c0 : Nat) (l0 : List Int) (a1 : ByteArray) (r : ByteArray) (w : World) (hr0 : Kd.C (Kd.int .i64) w A0 l0.length l0) (hc0 : l0.length ≤ c0) (h : spec_madeNumbers.f k l0 a1 = some r) :
    Calls Tryd.prog 93 #[.slice A0 l0.length c0, .string a1] w fun e w' => e = .returned (.string r) ∧ Below w.heap.size w w' := by
  have HR0 := Aside0.mk hr0
  have HC0 := Aside0.mk hc0
  clear hr0 hc0
  have HB := Aside0.mk (Below.refl w.heap.size w)
  have H : (spec_madeNumbers.l0 k a1 ([] : List ByteArray) l0 (l0.length : Int) 0) = some r := h
  clear h
  have H' := Aside0.mk H
  clear H
  go_enter Tryd.func93, Tryd.ntmps93
  go_wp2
  go_loopg [5, 10] k (fun kq v5 v10 w' => ∃ (x5_1 : List ByteArray) (x10_1 : Int), v10 = .int .i64 x10_1 ∧ Aside0 (spec_madeNumbers.l0 kq a1 x5_1 l0 (l0.length : Int) x10_1 = some r) ∧ Aside0 (kq ≤ k) ∧ Aside0 (Kd.R Kd.string 9 w' w.heap.size (fun _ => True) v5 x5_1) ∧ Aside0 (Below w.heap.size w w'))
  case atStart => exact ⟨(([] : List ByteArray)), (0), (by first | rfl | (simp; done) | (simp [*]; done)), H', ⟨Nat.le_refl _⟩, ⟨by first | exact Kd.R_nil _ _ _ _ _ | exact Kd.N_nil _ _ _ _ _ | exact Kd.V_nil _ _ _ _ _ | exact Kd.Q_nil _ _ _ _ _ | exact Kd.S_nil _ _ _ _ _⟩, ⟨by repeat (first | (with_reducible first | exact HB.out | apply below_alloc | apply Ext.below_bytes | apply pw_below_drewN | apply below_drew1) | exact HB.out)⟩⟩
  case round =>
    clear H'
    try clear p2
    obtain ⟨x5_1, x10_1, rfl, HA, HK1, HO_5, HB⟩ := hrel
    cases gk with
    | zero => exact absurd HA.out (by simp [spec_madeNumbers.l0])
    | succ k1 =>
      have H := HA.out
      clear HA
      simp only [spec_madeNumbers.l0] at H
      by_cases c3 : x10_1 < (l0.length : Int)
      · rw [if_pos c3] at H
        have c3b0 : decide (x10_1 < (l0.length : Int)) = true := decide_eq_true c3
        clear c3
        by_cases c4 : 0 ≤ x10_1
        · rw [if_pos c4] at H
          have c4b0 : decide (0 ≤ x10_1) = true := decide_eq_true c4
          clear c4
          by_cases c5 : x10_1 < (l0.length : Int)
          · rw [if_pos c5] at H
            have c5b0 : decide (x10_1 < (l0.length : Int)) = true := decide_eq_true c5
            clear c5
            replace H := Option.bind_eq_some_iff.mp H
            obtain ⟨t259, A60, H⟩ := H
            replace H : (if x5_1.length < 8796093022208 then (spec_madeNumbers.l0 k1 a1 (x5_1 ++ [t259]) l0 (l0.length : Int) (wrap64 (x10_1 + 1))) else (none)) = some r := H
            have A6 := Aside0.mk A60
            clear A60
            by_cases c7 : x5_1.length < 8796093022208
            · rw [if_pos c7] at H
              have LMc7 := Aside0.mk c7
              clear c7
              obtain ⟨y260, hy260⟩ : ∃ y_ : List ByteArray, y_ = (x5_1 ++ [t259]) := ⟨_, rfl⟩
              replace H : (spec_madeNumbers.l0 k1 a1 y260 l0 (l0.length : Int) (wrap64 (x10_1 + 1))) = some r := by first | (rw [hy260]; with_reducible exact H) | (have H2_ := (Option.bind_some _ _).symm.trans H; rw [hy260]; with_reducible exact H2_) | (have H2_ := (Option.bind_some _ _).symm.trans H; with_reducible exact H2_) | with_reducible exact H | (rw [hy260]; exact H) | exact H
              have Ny260 := Aside0.mk hy260
              clear hy260
              have H' := Aside0.mk H
              clear H
              have p258 : 0 ≤ (x10_1 : Int) := of_decide_eq_true (by first | (with_reducible assumption) | assumption)
              have q258 : x10_1 < (l0.length : Int) := of_decide_eq_true (by first | (with_reducible assumption) | assumption)
              obtain ⟨ad258, e258, hx258_0⟩ := Kd.at_int HR0.out x10_1 p258 q258
              cases e258
              replace hx258_0 := (HB.out.cell (World.block_lt_of_cell? w _ hx258_0)).trans hx258_0
              replace p258 := eq_true p258
              replace q258 := eq_true q258
              go_wp2_with (first | ((with_reducible refine gate_callee (f := 71) rfl ?_); refine goesL_ (some 16) rfl rfl Tryd.func71 (by kernel_rfl) rfl #[.int .i64 (rd l0 x10_1)] rfl (by (try simp only [List.map_toArray, List.map_cons, List.map_nil]); first | done | rfl | (simp only [List.length_drop, List.length_take]; rfl) | (simp [Act.eval, *]; done)) ?_; (with_reducible refine (spec_Digits.calls k1 (rd l0 x10_1) t259 _ A6.out).mono ?_); rintro e w8 ⟨rfl, hb⟩; refine ⟨_, rfl, ?_⟩; have n0_ := Aside0.mk (Kd.R_below (by (with_reducible repeat (first | apply Kd.R_alloc | apply Ext.R_bytes | apply Kd.R_drewN | apply Kd.R_drew)); exact HO_5.out) hb); have n1_ := Aside0.mk (below_step (by repeat (first | (with_reducible first | exact HB.out | apply below_alloc | apply Ext.below_bytes | apply pw_below_drewN | apply below_drew1) | exact HB.out)) hb); clear HO_5; clear HB; have HO_5 := n0_; have HB := n1_; clear n0_ n1_; (try clear hb); (try clear hb2); (try clear hk); (try clear hi)) | ((with_reducible refine gate_builtin (b := .append) (xs := #[.tmp 14, .tmp 17]) rfl ?_); at_builtin; refine Kd.R_append Kd.string (w0 := w) w.heap.size rfl (.tmp 14) (.tmp 17) 68 9 (.string ⟨#[]⟩) 16 rfl Tryd.underlying68 info9 rfl (by decide) (by omega) u5 x5_1 t259 [.string t259] (fun _ => True) (fun _ => False) rfl rfl ?aP (fun _ hk => hk.elim) ?aF ?aO ?aB ?aS ?aL ?_; (case aP => exact rfl); (case aB => exact (by repeat (first | (with_reducible first | exact HB.out | apply below_alloc | apply Ext.below_bytes | apply pw_below_drewN | apply below_drew1) | exact HB.out))); (case aF => exact (fun _ _ => trivial)); (case aO => exact (by (with_reducible repeat (first | apply Kd.R_alloc | apply Ext.R_bytes | apply Kd.R_drewN | apply Kd.R_drew)); exact HO_5.out)); (case aS => exact (below_size (by repeat (first | (with_reducible first | exact HB.out | apply below_alloc | apply Ext.below_bytes | apply pw_below_drewN | apply below_drew1) | exact HB.out)))); (case aL => have := LMc7.out; omega); intro v261 w9 ho hb hg hat; rw [← Ny260.out] at ho; have n0_ := Aside0.mk (hb); have n1_ := Aside0.mk (ho); clear HB; clear HO_5; have HB := n0_; have HO262 := n1_; clear n0_ n1_; clear ho hb hg hat))
              go_roundg k1
              case measure => have := HK1.out; omega
              case rel => exact ⟨(y260), (wrap64 (x10_1 + 1)), (by first | rfl | (simp; done) | (simp [*]; done)), H', ⟨by have := HK1.out; omega⟩, ⟨by (with_reducible repeat (first | apply Kd.R_alloc | apply Ext.R_bytes | apply Kd.R_drewN | apply Kd.R_drew)); exact HO262.out⟩, ⟨by repeat (first | (with_reducible first | exact HB.out | apply below_alloc | apply Ext.below_bytes | apply pw_below_drewN | apply below_drew1) | exact HB.out)⟩⟩
            · rw [if_neg c7] at H
              exact absurd H (by simp)
          · rw [if_neg c5] at H
            exact absurd H (by simp)
        · rw [if_neg c4] at H
          exact absurd H (by simp)
      · rw [if_neg c3] at H
        have c3b0 : decide (x10_1 < (l0.length : Int)) = false := decide_eq_false c3
        clear c3
        replace H := Option.bind_eq_some_iff.mp H
        obtain ⟨t263, A100, H⟩ := H
        replace H : (some t263) = some r := H
        have A10 := Aside0.mk A100
        clear A100
        obtain rfl := Option.some.inj H
        obtain ⟨Ao11, co11, eo11⟩ := Kd.R_slice HO_5.out
        subst eo11
        go_wp2_with (first | ((with_reducible refine gate_callee (f := 113) rfl ?_); refine goesL_ (some 22) rfl rfl Tryd.func113 (by kernel_rfl) rfl #[.slice Ao11 x5_1.length co11, .string a1] rfl (by (try simp only [List.map_toArray, List.map_cons, List.map_nil]); first | done | rfl | (simp only [List.length_drop, List.length_take]; rfl) | (simp [Act.eval, *]; done)) ?_; (with_reducible refine (spec_madeJoined.calls k1 _ _ x5_1 a1 t263 _ ?side1 ?side2 A10.out).mono ?_); (case side1 => repeat (first | exact (Kd.R_reads' HO_5.out).2.2 | (with_reducible refine Kd.C_alloc ?_ _) | (with_reducible refine Kd.C_drewN ?_ _) | (with_reducible refine Kd.C_drew ?_))); (case side2 => exact (Kd.R_reads' HO_5.out).2.1); rintro e w' ⟨rfl, ⟨nd, rfl⟩⟩; refine ⟨_, rfl, ?_⟩))
        go_ret
        exact ⟨by first | rfl | (simp [errW_none, errW_some] <;> rfl) | (simp [*, errW_none, errW_some] <;> rfl), by repeat (first | (with_reducible first | exact HB.out | apply below_alloc | apply Ext.below_bytes | apply pw_below_drewN | apply below_drew1) | exact HB.out)⟩

/-! ### spec_StyleText: function 94 -/
def spec_StyleText.f (k : Nat) (l0 : List ByteArray) : Option (ByteArray) := (spec_madeJoined.f k l0 (⟨#[59]⟩ : ByteArray)).bind fun t264 => (if 2 + t264.size ≤ 9223372036854775807 then (if 2 + t264.size + 1 ≤ 9223372036854775807 then (some (((⟨#[27, 91]⟩ : ByteArray) ++ t264) ++ (⟨#[109]⟩ : ByteArray))) else (none)) else (none))
theorem spec_StyleText.mono : ∀ a0 k, LeO (spec_StyleText.f k a0) (spec_StyleText.f (k + 1) a0) := by
  intro a0 k
  unfold spec_StyleText.f
  repeat' first
      | (with_reducible exact spec_madeJoined.mono _ _ _)
      | (with_reducible exact LeO.refl _)
      | (with_reducible exact LeO.none _)
      | (with_reducible refine LeO.ite ?_ ?_)
      | (with_reducible refine LeO.bind ?_ (fun _ => ?_))
      | exact spec_madeJoined.mono _ _ _
      | exact LeO.none _
      | refine LeO.ite ?_ ?_
      | refine LeO.bind ?_ (fun _ => ?_)
set_option maxHeartbeats 8000000 in
set_option maxRecDepth 100000 in
theorem spec_StyleText.calls (k : Nat) (A0 : Option Addr) (c0 : Nat) (l0 : List ByteArray) (r : ByteArray) (w : World) (hr0 : Kd.C Kd.string w A0 l0.length l0) (hc0 : l0.length ≤ c0) (h : spec_StyleText.f k l0 = some r) :
    Calls Tryd.prog 94 #[.slice A0 l0.length c0] w fun e w' => e = .returned (.string r) ∧ Drawn0 w w' := by
  have HR0 := Aside0.mk hr0
  have HC0 := Aside0.mk hc0
  clear hr0 hc0
  have H : ((spec_madeJoined.f k l0 (⟨#[59]⟩ : ByteArray)).bind fun t264 => (if 2 + t264.size ≤ 9223372036854775807 then (if 2 + t264.size + 1 ≤ 9223372036854775807 then (some (((⟨#[27, 91]⟩ : ByteArray) ++ t264) ++ (⟨#[109]⟩ : ByteArray))) else (none)) else (none))) = some r := h
  clear h
  replace H := Option.bind_eq_some_iff.mp H
  obtain ⟨t264, A20, H⟩ := H
  replace H : (if 2 + t264.size ≤ 9223372036854775807 then (if 2 + t264.size + 1 ≤ 9223372036854775807 then (some (((⟨#[27, 91]⟩ : ByteArray) ++ t264) ++ (⟨#[109]⟩ : ByteArray))) else (none)) else (none)) = some r := H
  have A2 := Aside0.mk A20
  clear A20
  by_cases c3 : 2 + t264.size ≤ 9223372036854775807
  · rw [if_pos c3] at H
    have c3b0 := eq_true c3
    have c3b1 : decide (2 + t264.size ≤ 9223372036854775807) = true := decide_eq_true c3
    try have c3b2 : (9223372036854775807 < 2 + t264.size) = False := eq_false (Nat.not_lt.2 c3)
    by_cases c4 : 2 + t264.size + 1 ≤ 9223372036854775807
    · rw [if_pos c4] at H
      have c4b0 := eq_true c4
      have c4b1 : decide (2 + t264.size + 1 ≤ 9223372036854775807) = true := decide_eq_true c4
      try have c4b2 : (9223372036854775807 < 2 + t264.size + 1) = False := eq_false (Nat.not_lt.2 c4)
      obtain rfl := Option.some.inj H
      go_enter Tryd.func94, Tryd.ntmps94
      go_wp2_with (first | ((with_reducible refine gate_callee (f := 113) rfl ?_); refine goesL_ (some 4) rfl rfl Tryd.func113 (by kernel_rfl) rfl #[.slice A0 l0.length c0, .string (⟨#[59]⟩ : ByteArray)] rfl (by (try simp only [List.map_toArray, List.map_cons, List.map_nil]); first | done | rfl | (simp only [List.length_drop, List.length_take]; rfl) | (simp [Act.eval, *]; done)) ?_; (with_reducible refine (spec_madeJoined.calls k _ _ l0 (⟨#[59]⟩ : ByteArray) t264 _ ?side1 ?side2 A2.out).mono ?_); (case side1 => repeat (first | exact HR0.out | (with_reducible refine Kd.C_alloc ?_ _) | (with_reducible refine Kd.C_drewN ?_ _) | (with_reducible refine Kd.C_drew ?_))); (case side2 => exact HC0.out); rintro e w' ⟨rfl, ⟨nd, rfl⟩⟩; refine ⟨_, rfl, ?_⟩))
      go_ret
      exact ⟨by first | rfl | (simp; done) | (simp [*]; done), by repeat (first | exact Drawn0.refl _ | apply Drawn0.step)⟩
    · rw [if_neg c4] at H
      exact absurd H (by simp)
  · rw [if_neg c3] at H
    exact absurd H (by simp)

/-! ### spec_stepPart: function 114 -/
def spec_stepPart.f (a0_0 : Int) (a0_1 : Bool) (a0_2 : Int) (a0_3 : Int) (a0_4 : Int) (a0_5 : Int) (a0_6 : Int) (a0_7 : Int) (a0_8 : Int) : Option (ByteArray) := none
set_option maxHeartbeats 8000000 in
set_option maxRecDepth 100000 in
theorem spec_stepPart.calls (a0_0 : Int) (a0_1 : Bool) (a0_2 : Int) (a0_3 : Int) (a0_4 : Int) (a0_5 : Int) (a0_6 : Int) (a0_7 : Int) (a0_8 : Int) (r : ByteArray) (w : World) (h : spec_stepPart.f a0_0 a0_1 a0_2 a0_3 a0_4 a0_5 a0_6 a0_7 a0_8 = some r) :
    Calls Tryd.prog 114 #[.agg #[.int .i64 a0_0, .bool a0_1, .int .u8 a0_2, .int .i64 a0_3, .int .i64 a0_4, .int .u8 a0_5, .int .u8 a0_6, .int .u8 a0_7, .int .u8 a0_8]] w fun e w' => e = .returned (.string r) ∧ Below w.heap.size w w' := by
  have hu109 := Tryd.underlying109
  have hu107 := Tryd.underlying107
  have HB := Aside0.mk (Below.refl w.heap.size w)
  have H : (none) = some r := h
  clear h
  exact absurd H (by simp)

/-! ### spec_StyleParts: function 95 -/
mutual
def spec_StyleParts.l0 : Nat → List (S109) → List ByteArray → List Int → Int → Int → Option (List ByteArray)
  | 0, _, _, _, _, _ => none
  | k + 1, x1, x5, x11, x12, x13 => if x13 < x12 then (if 0 ≤ x13 then (if x13 < (x11.length : Int) then ((spec_Digits.f k (mx (rd x11 x13) 0)).bind fun t266 => (if x5.length < 8796093022208 then (spec_StyleParts.l0 k x1 (x5 ++ [t266]) x11 x12 (wrap64 (x13 + 1))) else (none))) else (none)) else (none)) else (spec_StyleParts.l1 k x5 x1 (x1.length : Int) 0)
def spec_StyleParts.l1 : Nat → List ByteArray → List (S109) → Int → Int → Option (List ByteArray)
  | 0, _, _, _, _ => none
  | k + 1, x5, x24, x25, x26 => if x26 < x25 then (if 0 ≤ x26 then (if x26 < (x24.length : Int) then ((spec_stepPart.f ((rd_T109 x24 x26).f0) ((rd_T109 x24 x26).f1) ((rd_T109 x24 x26).f2) ((rd_T109 x24 x26).f3.f0) ((rd_T109 x24 x26).f3.f1) ((rd_T109 x24 x26).f3.f2) ((rd_T109 x24 x26).f3.f3) ((rd_T109 x24 x26).f3.f4) ((rd_T109 x24 x26).f3.f5)).bind fun t272 => (if t272.toList = ([] : List UInt8) then (spec_StyleParts.l1 k x5 x24 x25 (wrap64 (x26 + 1))) else (if x5.length < 8796093022208 then (spec_StyleParts.l1 k (x5 ++ [t272]) x24 x25 (wrap64 (x26 + 1))) else (none)))) else (none)) else (none)) else (some x5)
end
def spec_StyleParts.f (k : Nat) (l0 : List Int) (l1 : List (S109)) : Option (List ByteArray) := spec_StyleParts.l0 k l1 ([] : List ByteArray) l0 (l0.length : Int) 0
theorem spec_StyleParts.mono_l : ∀ k, (∀ y0 y1 y2 y3 y4, LeO (spec_StyleParts.l0 k y0 y1 y2 y3 y4) (spec_StyleParts.l0 (k + 1) y0 y1 y2 y3 y4)) ∧ (∀ y0 y1 y2 y3, LeO (spec_StyleParts.l1 k y0 y1 y2 y3) (spec_StyleParts.l1 (k + 1) y0 y1 y2 y3))
  | 0 => ⟨fun _ _ _ _ _ r h => by simp [spec_StyleParts.l0] at h, fun _ _ _ _ r h => by simp [spec_StyleParts.l1] at h⟩
  | k + 1 => by
    obtain ⟨ih0, ih1⟩ := spec_StyleParts.mono_l k
    refine ⟨?_, ?_⟩
    · intro y0 y1 y2 y3 y4
      unfold spec_StyleParts.l0
      repeat' first
      | (with_reducible exact ih0 _ _ _ _ _)
      | (with_reducible exact ih1 _ _ _ _)
      | (with_reducible exact spec_Digits.mono _ _)
      | (with_reducible exact LeO.refl _)
      | (with_reducible exact LeO.none _)
      | (with_reducible refine LeO.ite ?_ ?_)
      | (with_reducible refine LeO.bind ?_ (fun _ => ?_))
      | exact ih0 _ _ _ _ _
      | exact ih1 _ _ _ _
      | exact spec_Digits.mono _ _
      | exact LeO.none _
      | refine LeO.ite ?_ ?_
      | refine LeO.bind ?_ (fun _ => ?_)
    · intro y0 y1 y2 y3
      unfold spec_StyleParts.l1
      repeat' first
      | (with_reducible exact ih0 _ _ _ _ _)
      | (with_reducible exact ih1 _ _ _ _)
      | (with_reducible exact spec_Digits.mono _ _)
      | (with_reducible exact LeO.refl _)
      | (with_reducible exact LeO.none _)
      | (with_reducible refine LeO.ite ?_ ?_)
      | (with_reducible refine LeO.bind ?_ (fun _ => ?_))
      | exact ih0 _ _ _ _ _
      | exact ih1 _ _ _ _
      | exact spec_Digits.mono _ _
      | exact LeO.none _
      | refine LeO.ite ?_ ?_
      | refine LeO.bind ?_ (fun _ => ?_)
theorem spec_StyleParts.mono : ∀ a0 a1 k, LeO (spec_StyleParts.f k a0 a1) (spec_StyleParts.f (k + 1) a0 a1) := by
  intro a0 a1 k
  obtain ⟨ih0, ih1⟩ := spec_StyleParts.mono_l k
  unfold spec_StyleParts.f
  repeat' first
      | (with_reducible exact ih0 _ _ _ _ _)
      | (with_reducible exact ih1 _ _ _ _)
      | (with_reducible exact spec_Digits.mono _ _)
      | (with_reducible exact LeO.refl _)
      | (with_reducible exact LeO.none _)
      | (with_reducible refine LeO.ite ?_ ?_)
      | (with_reducible refine LeO.bind ?_ (fun _ => ?_))
      | exact ih0 _ _ _ _ _
      | exact ih1 _ _ _ _
      | exact spec_Digits.mono _ _
      | exact LeO.none _
      | refine LeO.ite ?_ ?_
      | refine LeO.bind ?_ (fun _ => ?_)
set_option maxHeartbeats 8000000 in
set_option maxRecDepth 100000 in
theorem spec_StyleParts.calls (k : Nat) (A0 : Option Addr) (c0 : Nat) (l0 : List Int) (A1 : Option Addr) (c1 : Nat) (l1 : List (S109)) (r : List ByteArray) (w : World) (hr0 : Kd.C (Kd.int .i64) w A0 l0.length l0) (hc0 : l0.length ≤ c0) (hr1 : Kd.C k109 w A1 l1.length l1) (hc1 : l1.length ≤ c1) (h : spec_StyleParts.f k l0 l1 = some r) :
    Calls Tryd.prog 95 #[.slice A0 l0.length c0, .slice A1 l1.length c1] w fun e w' => ∃ v0_ : Value, e = .returned (v0_) ∧ Kd.R Kd.string 9 w' w.heap.size (fun _ => True) v0_ r ∧ Below w.heap.size w w' := by
  have hu109 := Tryd.underlying109
  have HR0 := Aside0.mk hr0
  have HC0 := Aside0.mk hc0
  clear hr0 hc0
  have HR1 := Aside0.mk hr1
  have HC1 := Aside0.mk hc1
  clear hr1 hc1
  have HB := Aside0.mk (Below.refl w.heap.size w)
  have H : (spec_StyleParts.l0 k l1 ([] : List ByteArray) l0 (l0.length : Int) 0) = some r := h
  clear h
  have H' := Aside0.mk H
  clear H
  go_enter Tryd.func95, Tryd.ntmps95
  go_wp2
  go_loopg [5, 13] k (fun kq v5 v13 w' => ∃ (x5_1 : List ByteArray) (x13_1 : Int), v13 = .int .i64 x13_1 ∧ Aside0 (spec_StyleParts.l0 kq l1 x5_1 l0 (l0.length : Int) x13_1 = some r) ∧ Aside0 (kq ≤ k) ∧ Aside0 (Kd.R Kd.string 9 w' w.heap.size (fun _ => True) v5 x5_1) ∧ Aside0 (Below w.heap.size w w'))
  case atStart => exact ⟨(([] : List ByteArray)), (0), (by first | rfl | (simp; done) | (simp [*]; done)), H', ⟨Nat.le_refl _⟩, ⟨by first | exact Kd.R_nil _ _ _ _ _ | exact Kd.N_nil _ _ _ _ _ | exact Kd.V_nil _ _ _ _ _ | exact Kd.Q_nil _ _ _ _ _ | exact Kd.S_nil _ _ _ _ _⟩, ⟨by repeat (first | (with_reducible first | exact HB.out | apply below_alloc | apply Ext.below_bytes | apply pw_below_drewN | apply below_drew1) | exact HB.out)⟩⟩
  case round =>
    clear H'
    try clear c1
    try clear p2
    obtain ⟨x5_1, x13_1, rfl, HA, HK1, HO_5, HB⟩ := hrel
    cases gk with
    | zero => exact absurd HA.out (by simp [spec_StyleParts.l0])
    | succ k1 =>
      have H := HA.out
      clear HA
      simp only [spec_StyleParts.l0] at H
      by_cases c3 : x13_1 < (l0.length : Int)
      · rw [if_pos c3] at H
        have c3b0 : decide (x13_1 < (l0.length : Int)) = true := decide_eq_true c3
        clear c3
        by_cases c4 : 0 ≤ x13_1
        · rw [if_pos c4] at H
          have c4b0 : decide (0 ≤ x13_1) = true := decide_eq_true c4
          clear c4
          by_cases c5 : x13_1 < (l0.length : Int)
          · rw [if_pos c5] at H
            have c5b0 : decide (x13_1 < (l0.length : Int)) = true := decide_eq_true c5
            clear c5
            obtain ⟨ji6, hji6⟩ : ∃ j_ : Int, (mx (rd l0 x13_1) 0) = j_ := ⟨_, rfl⟩
            replace H : ((spec_Digits.f k1 (ji6)).bind fun t266 => (if x5_1.length < 8796093022208 then (spec_StyleParts.l0 k1 l1 (x5_1 ++ [t266]) l0 (l0.length : Int) (wrap64 (x13_1 + 1))) else (none))) = some r := by first | (rw [hji6] at H; exact H) | (simp only [hji6] at H ⊢; exact H)
            have hji6_ : (if (rd l0 x13_1) < 0 then 0 else (rd l0 x13_1)) = ji6 := hji6
            replace H := Option.bind_eq_some_iff.mp H
            obtain ⟨t266, A70, H⟩ := H
            replace H : (if x5_1.length < 8796093022208 then (spec_StyleParts.l0 k1 l1 (x5_1 ++ [t266]) l0 (l0.length : Int) (wrap64 (x13_1 + 1))) else (none)) = some r := H
            have A7 := Aside0.mk A70
            clear A70
            by_cases c8 : x5_1.length < 8796093022208
            · rw [if_pos c8] at H
              have LMc8 := Aside0.mk c8
              clear c8
              obtain ⟨y267, hy267⟩ : ∃ y_ : List ByteArray, y_ = (x5_1 ++ [t266]) := ⟨_, rfl⟩
              replace H : (spec_StyleParts.l0 k1 l1 y267 l0 (l0.length : Int) (wrap64 (x13_1 + 1))) = some r := by first | (rw [hy267]; with_reducible exact H) | (have H2_ := (Option.bind_some _ _).symm.trans H; rw [hy267]; with_reducible exact H2_) | (have H2_ := (Option.bind_some _ _).symm.trans H; with_reducible exact H2_) | with_reducible exact H | (rw [hy267]; exact H) | exact H
              have Ny267 := Aside0.mk hy267
              clear hy267
              have H' := Aside0.mk H
              clear H
              have p265 : 0 ≤ (x13_1 : Int) := of_decide_eq_true (by first | (with_reducible assumption) | assumption)
              have q265 : x13_1 < (l0.length : Int) := of_decide_eq_true (by first | (with_reducible assumption) | assumption)
              obtain ⟨ad265, e265, hx265_0⟩ := Kd.at_int HR0.out x13_1 p265 q265
              cases e265
              replace hx265_0 := (HB.out.cell (World.block_lt_of_cell? w _ hx265_0)).trans hx265_0
              replace p265 := eq_true p265
              replace q265 := eq_true q265
              go_wp2_with (first | ((with_reducible refine gate_callee (f := 71) rfl ?_); refine goesL_ (some 20) rfl rfl Tryd.func71 (by kernel_rfl) rfl #[.int .i64 ji6] rfl (by (try simp only [List.map_toArray, List.map_cons, List.map_nil]); first | done | (simp only [hji6]; rfl) | rfl | (simp only [List.length_drop, List.length_take]; rfl) | (simp [Act.eval, *]; done)) ?_; (with_reducible refine (spec_Digits.calls k1 ji6 t266 _ A7.out).mono ?_); rintro e w9 ⟨rfl, hb⟩; refine ⟨_, rfl, ?_⟩; have n0_ := Aside0.mk (Kd.R_below (by (with_reducible repeat (first | apply Kd.R_alloc | apply Ext.R_bytes | apply Kd.R_drewN | apply Kd.R_drew)); exact HO_5.out) hb); have n1_ := Aside0.mk (below_step (by repeat (first | (with_reducible first | exact HB.out | apply below_alloc | apply Ext.below_bytes | apply pw_below_drewN | apply below_drew1) | exact HB.out)) hb); clear HO_5; clear HB; have HO_5 := n0_; have HB := n1_; clear n0_ n1_; (try clear hb); (try clear hb2); (try clear hk); (try clear hi)) | ((with_reducible refine gate_builtin (b := .append) (xs := #[.tmp 17, .tmp 21]) rfl ?_); at_builtin; refine Kd.R_append Kd.string (w0 := w) w.heap.size rfl (.tmp 17) (.tmp 21) 68 9 (.string ⟨#[]⟩) 16 rfl Tryd.underlying68 info9 rfl (by decide) (by omega) u5 x5_1 t266 [.string t266] (fun _ => True) (fun _ => False) rfl rfl ?aP (fun _ hk => hk.elim) ?aF ?aO ?aB ?aS ?aL ?_; (case aP => exact rfl); (case aB => exact (by repeat (first | (with_reducible first | exact HB.out | apply below_alloc | apply Ext.below_bytes | apply pw_below_drewN | apply below_drew1) | exact HB.out))); (case aF => exact (fun _ _ => trivial)); (case aO => exact (by (with_reducible repeat (first | apply Kd.R_alloc | apply Ext.R_bytes | apply Kd.R_drewN | apply Kd.R_drew)); exact HO_5.out)); (case aS => exact (below_size (by repeat (first | (with_reducible first | exact HB.out | apply below_alloc | apply Ext.below_bytes | apply pw_below_drewN | apply below_drew1) | exact HB.out)))); (case aL => have := LMc8.out; omega); intro v268 w10 ho hb hg hat; rw [← Ny267.out] at ho; have n0_ := Aside0.mk (hb); have n1_ := Aside0.mk (ho); clear HB; clear HO_5; have HB := n0_; have HO269 := n1_; clear n0_ n1_; clear ho hb hg hat))
              go_roundg k1
              case measure => have := HK1.out; omega
              case rel => exact ⟨(y267), (wrap64 (x13_1 + 1)), (by first | rfl | (simp; done) | (simp [*]; done)), H', ⟨by have := HK1.out; omega⟩, ⟨by (with_reducible repeat (first | apply Kd.R_alloc | apply Ext.R_bytes | apply Kd.R_drewN | apply Kd.R_drew)); exact HO269.out⟩, ⟨by repeat (first | (with_reducible first | exact HB.out | apply below_alloc | apply Ext.below_bytes | apply pw_below_drewN | apply below_drew1) | exact HB.out)⟩⟩
            · rw [if_neg c8] at H
              exact absurd H (by simp)
          · rw [if_neg c5] at H
            exact absurd H (by simp)
        · rw [if_neg c4] at H
          exact absurd H (by simp)
      · rw [if_neg c3] at H
        have c3b0 : decide (x13_1 < (l0.length : Int)) = false := decide_eq_false c3
        clear c3
        have H' := Aside0.mk H
        clear H
        go_wp2
        go_loopg [5, 26] k1 (fun kq v5 v26 w' => ∃ (x5_2 : List ByteArray) (x26_2 : Int), v26 = .int .i64 x26_2 ∧ Aside0 (spec_StyleParts.l1 kq x5_2 l1 (l1.length : Int) x26_2 = some r) ∧ Aside0 (kq ≤ k1) ∧ Aside0 (Kd.R Kd.string 9 w' w.heap.size (fun _ => True) v5 x5_2) ∧ Aside0 (Below w.heap.size w w'))
        case atStart => exact ⟨(x5_1), (0), (by first | rfl | (simp; done) | (simp [*]; done)), H', ⟨Nat.le_refl _⟩, ⟨by (with_reducible repeat (first | apply Kd.R_alloc | apply Ext.R_bytes | apply Kd.R_drewN | apply Kd.R_drew)); exact HO_5.out⟩, ⟨by repeat (first | (with_reducible first | exact HB.out | apply below_alloc | apply Ext.below_bytes | apply pw_below_drewN | apply below_drew1) | exact HB.out)⟩⟩
        case round =>
          clear H'
          try clear c1
          try clear p2
          try clear q2
          try clear hx2
          try clear c3
          try clear c3b0
          try clear c4
          try clear c4b0
          try clear c5
          try clear c5b0
          try clear p6
          try clear c7
          try clear c8
          try clear c9
          try clear hx265_0
          try clear p2
          try clear p265
          try clear q265
          obtain ⟨x5_2, x26_2, rfl, HA, HK2, HO_5, HB⟩ := hrel
          cases gk with
          | zero => exact absurd HA.out (by simp [spec_StyleParts.l1])
          | succ k2 =>
            have H := HA.out
            clear HA
            simp only [spec_StyleParts.l1] at H
            by_cases c11 : x26_2 < (l1.length : Int)
            · rw [if_pos c11] at H
              have c11b0 : decide (x26_2 < (l1.length : Int)) = true := decide_eq_true c11
              clear c11
              by_cases c12 : 0 ≤ x26_2
              · rw [if_pos c12] at H
                have c12b0 : decide (0 ≤ x26_2) = true := decide_eq_true c12
                clear c12
                by_cases c13 : x26_2 < (l1.length : Int)
                · rw [if_pos c13] at H
                  have c13b0 : decide (x26_2 < (l1.length : Int)) = true := decide_eq_true c13
                  clear c13
                  replace H := Option.bind_eq_some_iff.mp H
                  obtain ⟨t272, A140, H⟩ := H
                  replace H : (if t272.toList = ([] : List UInt8) then (spec_StyleParts.l1 k2 x5_2 l1 (l1.length : Int) (wrap64 (x26_2 + 1))) else (if x5_2.length < 8796093022208 then (spec_StyleParts.l1 k2 (x5_2 ++ [t272]) l1 (l1.length : Int) (wrap64 (x26_2 + 1))) else (none))) = some r := H
                  have A14 := Aside0.mk A140
                  clear A140
                  by_cases c15 : t272.toList = ([] : List UInt8)
                  · rw [if_pos c15] at H
                    have c15b0 : (t272.toList == ([] : List UInt8)) = true := beq_iff_eq.mpr c15
                    have c15b1 : (t272.toList != ([] : List UInt8)) = false := bne_eq_false_iff_eq.mpr c15
                    clear c15
                    have H' := Aside0.mk H
                    clear H
                    have p270 : 0 ≤ (x26_2 : Int) := of_decide_eq_true (by first | (with_reducible assumption) | assumption)
                    have q270 : x26_2 < (l1.length : Int) := of_decide_eq_true (by first | (with_reducible assumption) | assumption)
                    obtain ⟨ad270, e270, hx270_0, hx270_1, hx270_2, hx270_3, hx270_4, hx270_5, hx270_6, hx270_7, hx270_8⟩ := at_T109 HR1.out x26_2 p270 q270
                    cases e270
                    replace hx270_0 := (HB.out.cell (World.block_lt_of_cell? w _ hx270_0)).trans hx270_0
                    replace hx270_1 := (HB.out.cell (World.block_lt_of_cell? w _ hx270_1)).trans hx270_1
                    replace hx270_2 := (HB.out.cell (World.block_lt_of_cell? w _ hx270_2)).trans hx270_2
                    replace hx270_3 := (HB.out.cell (World.block_lt_of_cell? w _ hx270_3)).trans hx270_3
                    replace hx270_4 := (HB.out.cell (World.block_lt_of_cell? w _ hx270_4)).trans hx270_4
                    replace hx270_5 := (HB.out.cell (World.block_lt_of_cell? w _ hx270_5)).trans hx270_5
                    replace hx270_6 := (HB.out.cell (World.block_lt_of_cell? w _ hx270_6)).trans hx270_6
                    replace hx270_7 := (HB.out.cell (World.block_lt_of_cell? w _ hx270_7)).trans hx270_7
                    replace hx270_8 := (HB.out.cell (World.block_lt_of_cell? w _ hx270_8)).trans hx270_8
                    replace p270 := eq_true p270
                    replace q270 := eq_true q270
                    go_wp2_with (first | ((with_reducible refine gate_dst (N := 9) rfl ?_); refine box_event ?hg (N := 9) ?hd (cs := #[.int .i64 0, .bool false, .int .u8 0, .int .i64 0, .int .i64 0, .int .u8 0, .int .u8 0, .int .u8 0, .int .u8 0]) (t := 109) ?hr ?_; (case hd => rfl); (case hg => rfl); (case hr => first | (go_simp; done) | (go_simp; rfl)); intro gb271 hg w16 hbox hb; have n0_ := Aside0.mk (Kd.R_below (by (with_reducible repeat (first | apply Kd.R_alloc | apply Ext.R_bytes | apply Kd.R_drewN | apply Kd.R_drew)); exact HO_5.out) hb); have n1_ := Aside0.mk (below_step (by repeat (first | (with_reducible first | exact HB.out | apply below_alloc | apply Ext.below_bytes | apply pw_below_drewN | apply below_drew1) | exact HB.out)) hb); have n2_ := Aside0.mk (hbox); have n3_ := Aside0.mk ((by rw [hg]; exact (below_size (by repeat (first | (with_reducible first | exact HB.out | apply below_alloc | apply Ext.below_bytes | apply pw_below_drewN | apply below_drew1) | exact HB.out))) : w.heap.size ≤ gb271)); have n4_ := Aside0.mk ((by rw [hg]; exact (below_size (by repeat (first | (with_reducible first | exact HB.out | apply below_alloc | apply Ext.below_bytes | apply pw_below_drewN | apply below_drew1) | exact HB.out))) : w.heap.size ≤ gb271)); clear HO_5; clear HB; have HO_5 := n0_; have HB := n1_; have BK271 := n2_; have GW271 := n3_; have GE271 := n4_; clear n0_ n1_ n2_ n3_ n4_; clear hb hbox hg; have hcz17_0 : w16.cell? ⟨gb271, 0, none⟩ = some (.int .i64 0) := (blk_cell BK271.out 0).trans rfl; have hcz17_1 : w16.cell? ⟨gb271, 1, none⟩ = some (.bool false) := (blk_cell BK271.out 1).trans rfl; have hcz17_2 : w16.cell? ⟨gb271, 2, none⟩ = some (.int .u8 0) := (blk_cell BK271.out 2).trans rfl; have hcz17_3 : w16.cell? ⟨gb271, 3, none⟩ = some (.int .i64 0) := (blk_cell BK271.out 3).trans rfl; have hcz17_4 : w16.cell? ⟨gb271, 4, none⟩ = some (.int .i64 0) := (blk_cell BK271.out 4).trans rfl; have hcz17_5 : w16.cell? ⟨gb271, 5, none⟩ = some (.int .u8 0) := (blk_cell BK271.out 5).trans rfl; have hcz17_6 : w16.cell? ⟨gb271, 6, none⟩ = some (.int .u8 0) := (blk_cell BK271.out 6).trans rfl; have hcz17_7 : w16.cell? ⟨gb271, 7, none⟩ = some (.int .u8 0) := (blk_cell BK271.out 7).trans rfl; have hcz17_8 : w16.cell? ⟨gb271, 8, none⟩ = some (.int .u8 0) := (blk_cell BK271.out 8).trans rfl; have hfz17_0 := blk_frozen BK271.out 0; have hfz17_1 := blk_frozen BK271.out 1; have hfz17_2 := blk_frozen BK271.out 2; have hfz17_3 := blk_frozen BK271.out 3; have hfz17_4 := blk_frozen BK271.out 4; have hfz17_5 := blk_frozen BK271.out 5; have hfz17_6 := blk_frozen BK271.out 6; have hfz17_7 := blk_frozen BK271.out 7; have hfz17_8 := blk_frozen BK271.out 8) | ((with_reducible refine gate_callee (f := 114) rfl ?_); refine goesL_ (some 31) rfl rfl Tryd.func114 (by kernel_rfl) rfl #[.agg #[.int .i64 ((rd_T109 l1 x26_2).f0), .bool ((rd_T109 l1 x26_2).f1), .int .u8 ((rd_T109 l1 x26_2).f2), .int .i64 ((rd_T109 l1 x26_2).f3.f0), .int .i64 ((rd_T109 l1 x26_2).f3.f1), .int .u8 ((rd_T109 l1 x26_2).f3.f2), .int .u8 ((rd_T109 l1 x26_2).f3.f3), .int .u8 ((rd_T109 l1 x26_2).f3.f4), .int .u8 ((rd_T109 l1 x26_2).f3.f5)]] rfl (by (try simp only [List.map_toArray, List.map_cons, List.map_nil]); first | done | rfl | (simp only [List.length_drop, List.length_take]; rfl) | (simp [Act.eval, *]; done)) ?_; (with_reducible refine (spec_stepPart.calls ((rd_T109 l1 x26_2).f0) ((rd_T109 l1 x26_2).f1) ((rd_T109 l1 x26_2).f2) ((rd_T109 l1 x26_2).f3.f0) ((rd_T109 l1 x26_2).f3.f1) ((rd_T109 l1 x26_2).f3.f2) ((rd_T109 l1 x26_2).f3.f3) ((rd_T109 l1 x26_2).f3.f4) ((rd_T109 l1 x26_2).f3.f5) t272 _ A14.out).mono ?_); rintro e w18 ⟨rfl, hb⟩; refine ⟨_, rfl, ?_⟩; have n0_ := Aside0.mk (Kd.R_below (by (with_reducible repeat (first | apply Kd.R_alloc | apply Ext.R_bytes | apply Kd.R_drewN | apply Kd.R_drew)); exact (Kd.R_mono (Kd.R_far (p := ⟨gb271, 8, none⟩) (Kd.R_far (p := ⟨gb271, 7, none⟩) (Kd.R_far (p := ⟨gb271, 6, none⟩) (Kd.R_far (p := ⟨gb271, 5, none⟩) (Kd.R_far (p := ⟨gb271, 4, none⟩) (Kd.R_far (p := ⟨gb271, 3, none⟩) (Kd.R_far (p := ⟨gb271, 2, none⟩) (Kd.R_far (p := ⟨gb271, 1, none⟩) (Kd.R_far (p := ⟨gb271, 0, none⟩) (Kd.R_types HO_5.out BK271.out (by decide)) (fun _ hk => hk.2) (.int .i64 ((rd_T109 l1 x26_2).f0))) (fun _ hk => hk.2) (.bool ((rd_T109 l1 x26_2).f1))) (fun _ hk => hk.2) (.int .u8 ((rd_T109 l1 x26_2).f2))) (fun _ hk => hk.2) (.int .i64 ((rd_T109 l1 x26_2).f3.f0))) (fun _ hk => hk.2) (.int .i64 ((rd_T109 l1 x26_2).f3.f1))) (fun _ hk => hk.2) (.int .u8 ((rd_T109 l1 x26_2).f3.f2))) (fun _ hk => hk.2) (.int .u8 ((rd_T109 l1 x26_2).f3.f3))) (fun _ hk => hk.2) (.int .u8 ((rd_T109 l1 x26_2).f3.f4))) (fun _ hk => hk.2) (.int .u8 ((rd_T109 l1 x26_2).f3.f5))) (fun _ h_ => h_.1))) hb); have n1_ := Aside0.mk (blk_below (g := gb271) (o := .cells #[.int .i64 ((rd_T109 l1 x26_2).f0), .bool ((rd_T109 l1 x26_2).f1), .int .u8 ((rd_T109 l1 x26_2).f2), .int .i64 ((rd_T109 l1 x26_2).f3.f0), .int .i64 ((rd_T109 l1 x26_2).f3.f1), .int .u8 ((rd_T109 l1 x26_2).f3.f2), .int .u8 ((rd_T109 l1 x26_2).f3.f3), .int .u8 ((rd_T109 l1 x26_2).f3.f4), .int .u8 ((rd_T109 l1 x26_2).f3.f5)] 109 (0, 0)) (by (with_reducible repeat (first | refine blk_drewN ?_ _ | refine blk_drew ?_ | refine blk_alloc ?_ _)); refine blk_put (cs := #[.int .i64 ((rd_T109 l1 x26_2).f0), .bool ((rd_T109 l1 x26_2).f1), .int .u8 ((rd_T109 l1 x26_2).f2), .int .i64 ((rd_T109 l1 x26_2).f3.f0), .int .i64 ((rd_T109 l1 x26_2).f3.f1), .int .u8 ((rd_T109 l1 x26_2).f3.f2), .int .u8 ((rd_T109 l1 x26_2).f3.f3), .int .u8 ((rd_T109 l1 x26_2).f3.f4), .int .u8 0]) ?_ 8 _ rfl; (with_reducible repeat (first | refine blk_drewN ?_ _ | refine blk_drew ?_ | refine blk_alloc ?_ _)); refine blk_put (cs := #[.int .i64 ((rd_T109 l1 x26_2).f0), .bool ((rd_T109 l1 x26_2).f1), .int .u8 ((rd_T109 l1 x26_2).f2), .int .i64 ((rd_T109 l1 x26_2).f3.f0), .int .i64 ((rd_T109 l1 x26_2).f3.f1), .int .u8 ((rd_T109 l1 x26_2).f3.f2), .int .u8 ((rd_T109 l1 x26_2).f3.f3), .int .u8 0, .int .u8 0]) ?_ 7 _ rfl; (with_reducible repeat (first | refine blk_drewN ?_ _ | refine blk_drew ?_ | refine blk_alloc ?_ _)); refine blk_put (cs := #[.int .i64 ((rd_T109 l1 x26_2).f0), .bool ((rd_T109 l1 x26_2).f1), .int .u8 ((rd_T109 l1 x26_2).f2), .int .i64 ((rd_T109 l1 x26_2).f3.f0), .int .i64 ((rd_T109 l1 x26_2).f3.f1), .int .u8 ((rd_T109 l1 x26_2).f3.f2), .int .u8 0, .int .u8 0, .int .u8 0]) ?_ 6 _ rfl; (with_reducible repeat (first | refine blk_drewN ?_ _ | refine blk_drew ?_ | refine blk_alloc ?_ _)); refine blk_put (cs := #[.int .i64 ((rd_T109 l1 x26_2).f0), .bool ((rd_T109 l1 x26_2).f1), .int .u8 ((rd_T109 l1 x26_2).f2), .int .i64 ((rd_T109 l1 x26_2).f3.f0), .int .i64 ((rd_T109 l1 x26_2).f3.f1), .int .u8 0, .int .u8 0, .int .u8 0, .int .u8 0]) ?_ 5 _ rfl; (with_reducible repeat (first | refine blk_drewN ?_ _ | refine blk_drew ?_ | refine blk_alloc ?_ _)); refine blk_put (cs := #[.int .i64 ((rd_T109 l1 x26_2).f0), .bool ((rd_T109 l1 x26_2).f1), .int .u8 ((rd_T109 l1 x26_2).f2), .int .i64 ((rd_T109 l1 x26_2).f3.f0), .int .i64 0, .int .u8 0, .int .u8 0, .int .u8 0, .int .u8 0]) ?_ 4 _ rfl; (with_reducible repeat (first | refine blk_drewN ?_ _ | refine blk_drew ?_ | refine blk_alloc ?_ _)); refine blk_put (cs := #[.int .i64 ((rd_T109 l1 x26_2).f0), .bool ((rd_T109 l1 x26_2).f1), .int .u8 ((rd_T109 l1 x26_2).f2), .int .i64 0, .int .i64 0, .int .u8 0, .int .u8 0, .int .u8 0, .int .u8 0]) ?_ 3 _ rfl; (with_reducible repeat (first | refine blk_drewN ?_ _ | refine blk_drew ?_ | refine blk_alloc ?_ _)); refine blk_put (cs := #[.int .i64 ((rd_T109 l1 x26_2).f0), .bool ((rd_T109 l1 x26_2).f1), .int .u8 0, .int .i64 0, .int .i64 0, .int .u8 0, .int .u8 0, .int .u8 0, .int .u8 0]) ?_ 2 _ rfl; (with_reducible repeat (first | refine blk_drewN ?_ _ | refine blk_drew ?_ | refine blk_alloc ?_ _)); refine blk_put (cs := #[.int .i64 ((rd_T109 l1 x26_2).f0), .bool false, .int .u8 0, .int .i64 0, .int .i64 0, .int .u8 0, .int .u8 0, .int .u8 0, .int .u8 0]) ?_ 1 _ rfl; (with_reducible repeat (first | refine blk_drewN ?_ _ | refine blk_drew ?_ | refine blk_alloc ?_ _)); refine blk_put (cs := #[.int .i64 0, .bool false, .int .u8 0, .int .i64 0, .int .i64 0, .int .u8 0, .int .u8 0, .int .u8 0, .int .u8 0]) ?_ 0 _ rfl; (with_reducible repeat (first | refine blk_drewN ?_ _ | refine blk_drew ?_ | refine blk_alloc ?_ _)); exact BK271.out) hb); have n2_ := Aside0.mk (below_step (by repeat (first | (with_reducible first | exact HB.out | apply below_alloc | apply Ext.below_bytes | apply pw_below_drewN | apply below_drew1 | refine below_set ?_ GE271.out) | exact HB.out)) hb); clear HO_5; clear BK271; clear HB; have HO_5 := n0_; have BK271 := n1_; have HB := n2_; clear n0_ n1_ n2_; (try clear hb); (try clear hb2); (try clear hk); (try clear hi)))
                    go_roundg k2
                    case measure => have := HK1.out; have := HK2.out; omega
                    case rel => exact ⟨(x5_2), (wrap64 (x26_2 + 1)), (by first | rfl | (simp; done) | (simp [*]; done)), H', ⟨by have := HK1.out; have := HK2.out; omega⟩, ⟨by (with_reducible repeat (first | apply Kd.R_alloc | apply Ext.R_bytes | apply Kd.R_drewN | apply Kd.R_drew)); exact HO_5.out⟩, ⟨by repeat (first | (with_reducible first | exact HB.out | apply below_alloc | apply Ext.below_bytes | apply pw_below_drewN | apply below_drew1 | refine below_set ?_ GE271.out) | exact HB.out)⟩⟩
                  · rw [if_neg c15] at H
                    have c15b0 : (t272.toList == ([] : List UInt8)) = false := beq_eq_false_iff_ne.mpr c15
                    have c15b1 : (t272.toList != ([] : List UInt8)) = true := bne_iff_ne.mpr c15
                    by_cases c19 : x5_2.length < 8796093022208
                    · rw [if_pos c19] at H
                      have LMc19 := Aside0.mk c19
                      clear c19
                      obtain ⟨y273, hy273⟩ : ∃ y_ : List ByteArray, y_ = (x5_2 ++ [t272]) := ⟨_, rfl⟩
                      replace H : (spec_StyleParts.l1 k2 y273 l1 (l1.length : Int) (wrap64 (x26_2 + 1))) = some r := by first | (rw [hy273]; with_reducible exact H) | (have H2_ := (Option.bind_some _ _).symm.trans H; rw [hy273]; with_reducible exact H2_) | (have H2_ := (Option.bind_some _ _).symm.trans H; with_reducible exact H2_) | with_reducible exact H | (rw [hy273]; exact H) | exact H
                      have Ny273 := Aside0.mk hy273
                      clear hy273
                      have H' := Aside0.mk H
                      clear H
                      have p270 : 0 ≤ (x26_2 : Int) := of_decide_eq_true (by first | (with_reducible assumption) | assumption)
                      have q270 : x26_2 < (l1.length : Int) := of_decide_eq_true (by first | (with_reducible assumption) | assumption)
                      obtain ⟨ad270, e270, hx270_0, hx270_1, hx270_2, hx270_3, hx270_4, hx270_5, hx270_6, hx270_7, hx270_8⟩ := at_T109 HR1.out x26_2 p270 q270
                      cases e270
                      replace hx270_0 := (HB.out.cell (World.block_lt_of_cell? w _ hx270_0)).trans hx270_0
                      replace hx270_1 := (HB.out.cell (World.block_lt_of_cell? w _ hx270_1)).trans hx270_1
                      replace hx270_2 := (HB.out.cell (World.block_lt_of_cell? w _ hx270_2)).trans hx270_2
                      replace hx270_3 := (HB.out.cell (World.block_lt_of_cell? w _ hx270_3)).trans hx270_3
                      replace hx270_4 := (HB.out.cell (World.block_lt_of_cell? w _ hx270_4)).trans hx270_4
                      replace hx270_5 := (HB.out.cell (World.block_lt_of_cell? w _ hx270_5)).trans hx270_5
                      replace hx270_6 := (HB.out.cell (World.block_lt_of_cell? w _ hx270_6)).trans hx270_6
                      replace hx270_7 := (HB.out.cell (World.block_lt_of_cell? w _ hx270_7)).trans hx270_7
                      replace hx270_8 := (HB.out.cell (World.block_lt_of_cell? w _ hx270_8)).trans hx270_8
                      replace p270 := eq_true p270
                      replace q270 := eq_true q270
                      go_wp2_with (first | ((with_reducible refine gate_dst (N := 9) rfl ?_); refine box_event ?hg (N := 9) ?hd (cs := #[.int .i64 0, .bool false, .int .u8 0, .int .i64 0, .int .i64 0, .int .u8 0, .int .u8 0, .int .u8 0, .int .u8 0]) (t := 109) ?hr ?_; (case hd => rfl); (case hg => rfl); (case hr => first | (go_simp; done) | (go_simp; rfl)); intro gb271 hg w20 hbox hb; have n0_ := Aside0.mk (Kd.R_below (by (with_reducible repeat (first | apply Kd.R_alloc | apply Ext.R_bytes | apply Kd.R_drewN | apply Kd.R_drew)); exact HO_5.out) hb); have n1_ := Aside0.mk (below_step (by repeat (first | (with_reducible first | exact HB.out | apply below_alloc | apply Ext.below_bytes | apply pw_below_drewN | apply below_drew1) | exact HB.out)) hb); have n2_ := Aside0.mk (hbox); have n3_ := Aside0.mk ((by rw [hg]; exact (below_size (by repeat (first | (with_reducible first | exact HB.out | apply below_alloc | apply Ext.below_bytes | apply pw_below_drewN | apply below_drew1) | exact HB.out))) : w.heap.size ≤ gb271)); have n4_ := Aside0.mk ((by rw [hg]; exact (below_size (by repeat (first | (with_reducible first | exact HB.out | apply below_alloc | apply Ext.below_bytes | apply pw_below_drewN | apply below_drew1) | exact HB.out))) : w.heap.size ≤ gb271)); clear HO_5; clear HB; have HO_5 := n0_; have HB := n1_; have BK271 := n2_; have GW271 := n3_; have GE271 := n4_; clear n0_ n1_ n2_ n3_ n4_; clear hb hbox hg; have hcz21_0 : w20.cell? ⟨gb271, 0, none⟩ = some (.int .i64 0) := (blk_cell BK271.out 0).trans rfl; have hcz21_1 : w20.cell? ⟨gb271, 1, none⟩ = some (.bool false) := (blk_cell BK271.out 1).trans rfl; have hcz21_2 : w20.cell? ⟨gb271, 2, none⟩ = some (.int .u8 0) := (blk_cell BK271.out 2).trans rfl; have hcz21_3 : w20.cell? ⟨gb271, 3, none⟩ = some (.int .i64 0) := (blk_cell BK271.out 3).trans rfl; have hcz21_4 : w20.cell? ⟨gb271, 4, none⟩ = some (.int .i64 0) := (blk_cell BK271.out 4).trans rfl; have hcz21_5 : w20.cell? ⟨gb271, 5, none⟩ = some (.int .u8 0) := (blk_cell BK271.out 5).trans rfl; have hcz21_6 : w20.cell? ⟨gb271, 6, none⟩ = some (.int .u8 0) := (blk_cell BK271.out 6).trans rfl; have hcz21_7 : w20.cell? ⟨gb271, 7, none⟩ = some (.int .u8 0) := (blk_cell BK271.out 7).trans rfl; have hcz21_8 : w20.cell? ⟨gb271, 8, none⟩ = some (.int .u8 0) := (blk_cell BK271.out 8).trans rfl; have hfz21_0 := blk_frozen BK271.out 0; have hfz21_1 := blk_frozen BK271.out 1; have hfz21_2 := blk_frozen BK271.out 2; have hfz21_3 := blk_frozen BK271.out 3; have hfz21_4 := blk_frozen BK271.out 4; have hfz21_5 := blk_frozen BK271.out 5; have hfz21_6 := blk_frozen BK271.out 6; have hfz21_7 := blk_frozen BK271.out 7; have hfz21_8 := blk_frozen BK271.out 8) | ((with_reducible refine gate_callee (f := 114) rfl ?_); refine goesL_ (some 31) rfl rfl Tryd.func114 (by kernel_rfl) rfl #[.agg #[.int .i64 ((rd_T109 l1 x26_2).f0), .bool ((rd_T109 l1 x26_2).f1), .int .u8 ((rd_T109 l1 x26_2).f2), .int .i64 ((rd_T109 l1 x26_2).f3.f0), .int .i64 ((rd_T109 l1 x26_2).f3.f1), .int .u8 ((rd_T109 l1 x26_2).f3.f2), .int .u8 ((rd_T109 l1 x26_2).f3.f3), .int .u8 ((rd_T109 l1 x26_2).f3.f4), .int .u8 ((rd_T109 l1 x26_2).f3.f5)]] rfl (by (try simp only [List.map_toArray, List.map_cons, List.map_nil]); first | done | rfl | (simp only [List.length_drop, List.length_take]; rfl) | (simp [Act.eval, *]; done)) ?_; (with_reducible refine (spec_stepPart.calls ((rd_T109 l1 x26_2).f0) ((rd_T109 l1 x26_2).f1) ((rd_T109 l1 x26_2).f2) ((rd_T109 l1 x26_2).f3.f0) ((rd_T109 l1 x26_2).f3.f1) ((rd_T109 l1 x26_2).f3.f2) ((rd_T109 l1 x26_2).f3.f3) ((rd_T109 l1 x26_2).f3.f4) ((rd_T109 l1 x26_2).f3.f5) t272 _ A14.out).mono ?_); rintro e w22 ⟨rfl, hb⟩; refine ⟨_, rfl, ?_⟩; have n0_ := Aside0.mk (Kd.R_below (by (with_reducible repeat (first | apply Kd.R_alloc | apply Ext.R_bytes | apply Kd.R_drewN | apply Kd.R_drew)); exact (Kd.R_mono (Kd.R_far (p := ⟨gb271, 8, none⟩) (Kd.R_far (p := ⟨gb271, 7, none⟩) (Kd.R_far (p := ⟨gb271, 6, none⟩) (Kd.R_far (p := ⟨gb271, 5, none⟩) (Kd.R_far (p := ⟨gb271, 4, none⟩) (Kd.R_far (p := ⟨gb271, 3, none⟩) (Kd.R_far (p := ⟨gb271, 2, none⟩) (Kd.R_far (p := ⟨gb271, 1, none⟩) (Kd.R_far (p := ⟨gb271, 0, none⟩) (Kd.R_types HO_5.out BK271.out (by decide)) (fun _ hk => hk.2) (.int .i64 ((rd_T109 l1 x26_2).f0))) (fun _ hk => hk.2) (.bool ((rd_T109 l1 x26_2).f1))) (fun _ hk => hk.2) (.int .u8 ((rd_T109 l1 x26_2).f2))) (fun _ hk => hk.2) (.int .i64 ((rd_T109 l1 x26_2).f3.f0))) (fun _ hk => hk.2) (.int .i64 ((rd_T109 l1 x26_2).f3.f1))) (fun _ hk => hk.2) (.int .u8 ((rd_T109 l1 x26_2).f3.f2))) (fun _ hk => hk.2) (.int .u8 ((rd_T109 l1 x26_2).f3.f3))) (fun _ hk => hk.2) (.int .u8 ((rd_T109 l1 x26_2).f3.f4))) (fun _ hk => hk.2) (.int .u8 ((rd_T109 l1 x26_2).f3.f5))) (fun _ h_ => h_.1))) hb); have n1_ := Aside0.mk (blk_below (g := gb271) (o := .cells #[.int .i64 ((rd_T109 l1 x26_2).f0), .bool ((rd_T109 l1 x26_2).f1), .int .u8 ((rd_T109 l1 x26_2).f2), .int .i64 ((rd_T109 l1 x26_2).f3.f0), .int .i64 ((rd_T109 l1 x26_2).f3.f1), .int .u8 ((rd_T109 l1 x26_2).f3.f2), .int .u8 ((rd_T109 l1 x26_2).f3.f3), .int .u8 ((rd_T109 l1 x26_2).f3.f4), .int .u8 ((rd_T109 l1 x26_2).f3.f5)] 109 (0, 0)) (by (with_reducible repeat (first | refine blk_drewN ?_ _ | refine blk_drew ?_ | refine blk_alloc ?_ _)); refine blk_put (cs := #[.int .i64 ((rd_T109 l1 x26_2).f0), .bool ((rd_T109 l1 x26_2).f1), .int .u8 ((rd_T109 l1 x26_2).f2), .int .i64 ((rd_T109 l1 x26_2).f3.f0), .int .i64 ((rd_T109 l1 x26_2).f3.f1), .int .u8 ((rd_T109 l1 x26_2).f3.f2), .int .u8 ((rd_T109 l1 x26_2).f3.f3), .int .u8 ((rd_T109 l1 x26_2).f3.f4), .int .u8 0]) ?_ 8 _ rfl; (with_reducible repeat (first | refine blk_drewN ?_ _ | refine blk_drew ?_ | refine blk_alloc ?_ _)); refine blk_put (cs := #[.int .i64 ((rd_T109 l1 x26_2).f0), .bool ((rd_T109 l1 x26_2).f1), .int .u8 ((rd_T109 l1 x26_2).f2), .int .i64 ((rd_T109 l1 x26_2).f3.f0), .int .i64 ((rd_T109 l1 x26_2).f3.f1), .int .u8 ((rd_T109 l1 x26_2).f3.f2), .int .u8 ((rd_T109 l1 x26_2).f3.f3), .int .u8 0, .int .u8 0]) ?_ 7 _ rfl; (with_reducible repeat (first | refine blk_drewN ?_ _ | refine blk_drew ?_ | refine blk_alloc ?_ _)); refine blk_put (cs := #[.int .i64 ((rd_T109 l1 x26_2).f0), .bool ((rd_T109 l1 x26_2).f1), .int .u8 ((rd_T109 l1 x26_2).f2), .int .i64 ((rd_T109 l1 x26_2).f3.f0), .int .i64 ((rd_T109 l1 x26_2).f3.f1), .int .u8 ((rd_T109 l1 x26_2).f3.f2), .int .u8 0, .int .u8 0, .int .u8 0]) ?_ 6 _ rfl; (with_reducible repeat (first | refine blk_drewN ?_ _ | refine blk_drew ?_ | refine blk_alloc ?_ _)); refine blk_put (cs := #[.int .i64 ((rd_T109 l1 x26_2).f0), .bool ((rd_T109 l1 x26_2).f1), .int .u8 ((rd_T109 l1 x26_2).f2), .int .i64 ((rd_T109 l1 x26_2).f3.f0), .int .i64 ((rd_T109 l1 x26_2).f3.f1), .int .u8 0, .int .u8 0, .int .u8 0, .int .u8 0]) ?_ 5 _ rfl; (with_reducible repeat (first | refine blk_drewN ?_ _ | refine blk_drew ?_ | refine blk_alloc ?_ _)); refine blk_put (cs := #[.int .i64 ((rd_T109 l1 x26_2).f0), .bool ((rd_T109 l1 x26_2).f1), .int .u8 ((rd_T109 l1 x26_2).f2), .int .i64 ((rd_T109 l1 x26_2).f3.f0), .int .i64 0, .int .u8 0, .int .u8 0, .int .u8 0, .int .u8 0]) ?_ 4 _ rfl; (with_reducible repeat (first | refine blk_drewN ?_ _ | refine blk_drew ?_ | refine blk_alloc ?_ _)); refine blk_put (cs := #[.int .i64 ((rd_T109 l1 x26_2).f0), .bool ((rd_T109 l1 x26_2).f1), .int .u8 ((rd_T109 l1 x26_2).f2), .int .i64 0, .int .i64 0, .int .u8 0, .int .u8 0, .int .u8 0, .int .u8 0]) ?_ 3 _ rfl; (with_reducible repeat (first | refine blk_drewN ?_ _ | refine blk_drew ?_ | refine blk_alloc ?_ _)); refine blk_put (cs := #[.int .i64 ((rd_T109 l1 x26_2).f0), .bool ((rd_T109 l1 x26_2).f1), .int .u8 0, .int .i64 0, .int .i64 0, .int .u8 0, .int .u8 0, .int .u8 0, .int .u8 0]) ?_ 2 _ rfl; (with_reducible repeat (first | refine blk_drewN ?_ _ | refine blk_drew ?_ | refine blk_alloc ?_ _)); refine blk_put (cs := #[.int .i64 ((rd_T109 l1 x26_2).f0), .bool false, .int .u8 0, .int .i64 0, .int .i64 0, .int .u8 0, .int .u8 0, .int .u8 0, .int .u8 0]) ?_ 1 _ rfl; (with_reducible repeat (first | refine blk_drewN ?_ _ | refine blk_drew ?_ | refine blk_alloc ?_ _)); refine blk_put (cs := #[.int .i64 0, .bool false, .int .u8 0, .int .i64 0, .int .i64 0, .int .u8 0, .int .u8 0, .int .u8 0, .int .u8 0]) ?_ 0 _ rfl; (with_reducible repeat (first | refine blk_drewN ?_ _ | refine blk_drew ?_ | refine blk_alloc ?_ _)); exact BK271.out) hb); have n2_ := Aside0.mk (below_step (by repeat (first | (with_reducible first | exact HB.out | apply below_alloc | apply Ext.below_bytes | apply pw_below_drewN | apply below_drew1 | refine below_set ?_ GE271.out) | exact HB.out)) hb); clear HO_5; clear BK271; clear HB; have HO_5 := n0_; have BK271 := n1_; have HB := n2_; clear n0_ n1_ n2_; (try clear hb); (try clear hb2); (try clear hk); (try clear hi)) | ((with_reducible refine gate_builtin (b := .append) (xs := #[.tmp 34, .tmp 36]) rfl ?_); at_builtin; refine Kd.R_append Kd.string (w0 := w) w.heap.size rfl (.tmp 34) (.tmp 36) 68 9 (.string ⟨#[]⟩) 16 rfl Tryd.underlying68 info9 rfl (by decide) (by omega) u5 x5_2 t272 [.string t272] (fun _ => True) (fun _ => False) rfl rfl ?aP (fun _ hk => hk.elim) ?aF ?aO ?aB ?aS ?aL ?_; (case aP => exact rfl); (case aB => exact (by repeat (first | (with_reducible first | exact HB.out | apply below_alloc | apply Ext.below_bytes | apply pw_below_drewN | apply below_drew1 | refine below_set ?_ GE271.out) | exact HB.out))); (case aF => exact (fun _ _ => trivial)); (case aO => exact (by (with_reducible repeat (first | apply Kd.R_alloc | apply Ext.R_bytes | apply Kd.R_drewN | apply Kd.R_drew)); exact HO_5.out)); (case aS => exact (below_size (by repeat (first | (with_reducible first | exact HB.out | apply below_alloc | apply Ext.below_bytes | apply pw_below_drewN | apply below_drew1 | refine below_set ?_ GE271.out) | exact HB.out)))); (case aL => have := LMc19.out; omega); intro v274 w23 ho hb hg hat; rw [← Ny273.out] at ho; have n0_ := Aside0.mk (blk_grown (g := gb271) (o := .cells #[.int .i64 ((rd_T109 l1 x26_2).f0), .bool ((rd_T109 l1 x26_2).f1), .int .u8 ((rd_T109 l1 x26_2).f2), .int .i64 ((rd_T109 l1 x26_2).f3.f0), .int .i64 ((rd_T109 l1 x26_2).f3.f1), .int .u8 ((rd_T109 l1 x26_2).f3.f2), .int .u8 ((rd_T109 l1 x26_2).f3.f3), .int .u8 ((rd_T109 l1 x26_2).f3.f4), .int .u8 ((rd_T109 l1 x26_2).f3.f5)] 109 (0, 0)) (by (with_reducible repeat (first | refine blk_drewN ?_ _ | refine blk_drew ?_ | refine blk_alloc ?_ _)); exact BK271.out) hg (Kd.R_ne HO_5.out BK271.out (by decide))); have n1_ := Aside0.mk (hb); have n2_ := Aside0.mk (ho); clear BK271; clear HB; clear HO_5; have BK271 := n0_; have HB := n1_; have HO275 := n2_; clear n0_ n1_ n2_; clear ho hb hg hat))
                      go_roundg k2
                      case measure => have := HK1.out; have := HK2.out; omega
                      case rel => exact ⟨(y273), (wrap64 (x26_2 + 1)), (by first | rfl | (simp; done) | (simp [*]; done)), H', ⟨by have := HK1.out; have := HK2.out; omega⟩, ⟨by (with_reducible repeat (first | apply Kd.R_alloc | apply Ext.R_bytes | apply Kd.R_drewN | apply Kd.R_drew)); exact HO275.out⟩, ⟨by repeat (first | (with_reducible first | exact HB.out | apply below_alloc | apply Ext.below_bytes | apply pw_below_drewN | apply below_drew1 | refine below_set ?_ GE271.out) | exact HB.out)⟩⟩
                    · rw [if_neg c19] at H
                      exact absurd H (by simp)
                · rw [if_neg c13] at H
                  exact absurd H (by simp)
              · rw [if_neg c12] at H
                exact absurd H (by simp)
            · rw [if_neg c11] at H
              have c11b0 : decide (x26_2 < (l1.length : Int)) = false := decide_eq_false c11
              clear c11
              obtain rfl := Option.some.inj H
              go_wp2
              go_ret
              exact ⟨_, by first | rfl | (simp [errW_none, errW_some] <;> rfl) | (simp [*, errW_none, errW_some] <;> rfl), by (with_reducible repeat (first | apply Kd.R_alloc | apply Ext.R_bytes | apply Kd.R_drewN | apply Kd.R_drew)); exact HO_5.out, by repeat (first | (with_reducible first | exact HB.out | apply below_alloc | apply Ext.below_bytes | apply pw_below_drewN | apply below_drew1) | exact HB.out)⟩

end Go.Proofs.YtplmmblofhhikaaDoor.PM
