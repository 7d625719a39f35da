-- Written by wip/pp.py, a program of this session, out of the translation. Not trusted: Lean checks it.
import Derived.Test.YtplmmblofhhikaaDoorPXx0
import Derived.Test.YtplmmblofhhikaaDoorPXx4
namespace Go.Proofs.YtplmmblofhhikaaDoor.PX
open Go.RowKit Go.Proofs.YtplmmblofhhikaaDoor.Or Go.Proofs.YtplmmblofhhikaaDoorW.PrintWords Go.Proofs.YtplmmblofhhikaaDoorW.PrintLast Go.Proofs.YtplmmblofhhikaaDoorW.PrintMore
attribute [local go_sem] max2_int min2_int max_two min_two max_three min_three max_four min_four   -- for this text's walks alone
attribute [local go_sem] Go.Proofs.YtplmmblofhhikaaDoor.Ext.wrap64_mod256 Go.Proofs.YtplmmblofhhikaaDoor.Ext.wrap64_mod32 Go.Proofs.YtplmmblofhhikaaDoor.Ext.i64_mod256 Go.Proofs.YtplmmblofhhikaaDoor.Ext.i64_mod32 Go.Proofs.YtplmmblofhhikaaDoor.Ext.i64_u8 Go.Proofs.YtplmmblofhhikaaDoor.Ext.w64_u8 Go.Proofs.YtplmmblofhhikaaDoor.Ext.i64_u32 Go.Proofs.YtplmmblofhhikaaDoor.Ext.w64_u32 
set_option linter.unusedVariables false
set_option linter.unusedSimpArgs false

/-! ### xansi_MouseSgr: function 106 -/
mutual
def xansi_MouseSgr.j0 : Nat → Int → Int → Int → Int → Option (ByteArray)
  | 0, _, _, _, _ => none
  | k + 1, x0, x1, x2, x9 => if x1 < 0 then (xansi_MouseSgr.j1 k x0 (wrap64 (-x1)) x2 x9) else (xansi_MouseSgr.j1 k x0 x1 x2 x9)
def xansi_MouseSgr.j1 : Nat → Int → Int → Int → Int → Option (ByteArray)
  | 0, _, _, _, _ => none
  | k + 1, x0, x1, x2, x9 => if x2 < 0 then ((strconv_Itoa.f (wrap64 (x0))).bind fun t203 => (if 3 + t203.size ≤ 9223372036854775807 then (if 3 + t203.size + 1 ≤ 9223372036854775807 then ((strconv_Itoa.f (wrap64 (x1 + 1))).bind fun t204 => (if 3 + t203.size + 1 + t204.size ≤ 9223372036854775807 then (if 3 + t203.size + 1 + t204.size + 1 ≤ 9223372036854775807 then ((strconv_Itoa.f (wrap64 ((wrap64 (-x2)) + 1))).bind fun t205 => (if 3 + t203.size + 1 + t204.size + 1 + t205.size ≤ 9223372036854775807 then (if 3 + t203.size + 1 + t204.size + 1 + t205.size + (Utf8.encode x9).size ≤ 9223372036854775807 then (some (((((((⟨#[27, 91, 60]⟩ : ByteArray) ++ t203) ++ (⟨#[59]⟩ : ByteArray)) ++ t204) ++ (⟨#[59]⟩ : ByteArray)) ++ t205) ++ (Utf8.encode x9))) else (none)) else (none))) else (none)) else (none))) else (none)) else (none))) else ((strconv_Itoa.f (wrap64 (x0))).bind fun t206 => (if 3 + t206.size ≤ 9223372036854775807 then (if 3 + t206.size + 1 ≤ 9223372036854775807 then ((strconv_Itoa.f (wrap64 (x1 + 1))).bind fun t207 => (if 3 + t206.size + 1 + t207.size ≤ 9223372036854775807 then (if 3 + t206.size + 1 + t207.size + 1 ≤ 9223372036854775807 then ((strconv_Itoa.f (wrap64 (x2 + 1))).bind fun t208 => (if 3 + t206.size + 1 + t207.size + 1 + t208.size ≤ 9223372036854775807 then (if 3 + t206.size + 1 + t207.size + 1 + t208.size + (Utf8.encode x9).size ≤ 9223372036854775807 then (some (((((((⟨#[27, 91, 60]⟩ : ByteArray) ++ t206) ++ (⟨#[59]⟩ : ByteArray)) ++ t207) ++ (⟨#[59]⟩ : ByteArray)) ++ t208) ++ (Utf8.encode x9))) else (none)) else (none))) else (none)) else (none))) else (none)) else (none)))
end
def xansi_MouseSgr.f (k : Nat) (a0 : Int) (a1 : Int) (a2 : Int) (a3 : Bool) : Option (ByteArray) := if a3 = true then (xansi_MouseSgr.j0 k a0 a1 a2 109) else (xansi_MouseSgr.j0 k a0 a1 a2 77)
theorem xansi_MouseSgr.mono_l : ∀ k, (∀ y0 y1 y2 y3, LeO (xansi_MouseSgr.j0 k y0 y1 y2 y3) (xansi_MouseSgr.j0 (k + 1) y0 y1 y2 y3)) ∧ (∀ y0 y1 y2 y3, LeO (xansi_MouseSgr.j1 k y0 y1 y2 y3) (xansi_MouseSgr.j1 (k + 1) y0 y1 y2 y3))
  | 0 => ⟨fun _ _ _ _ r h => by simp [xansi_MouseSgr.j0] at h, fun _ _ _ _ r h => by simp [xansi_MouseSgr.j1] at h⟩
  | k + 1 => by
    obtain ⟨ih0, ih1⟩ := xansi_MouseSgr.mono_l k
    refine ⟨?_, ?_⟩
    · intro y0 y1 y2 y3
      unfold xansi_MouseSgr.j0
      repeat' first
      | (with_reducible exact ih0 _ _ _ _)
      | (with_reducible exact ih1 _ _ _ _)
      | (with_reducible exact LeO.refl _)
      | (with_reducible exact LeO.none _)
      | (with_reducible refine LeO.ite ?_ ?_)
      | (with_reducible refine LeO.bind ?_ (fun _ => ?_))
      | exact ih0 _ _ _ _
      | exact ih1 _ _ _ _
      | exact LeO.none _
      | refine LeO.ite ?_ ?_
      | refine LeO.bind ?_ (fun _ => ?_)
    · intro y0 y1 y2 y3
      unfold xansi_MouseSgr.j1
      repeat' first
      | (with_reducible exact ih0 _ _ _ _)
      | (with_reducible exact ih1 _ _ _ _)
      | (with_reducible exact LeO.refl _)
      | (with_reducible exact LeO.none _)
      | (with_reducible refine LeO.ite ?_ ?_)
      | (with_reducible refine LeO.bind ?_ (fun _ => ?_))
      | exact ih0 _ _ _ _
      | exact ih1 _ _ _ _
      | exact LeO.none _
      | refine LeO.ite ?_ ?_
      | refine LeO.bind ?_ (fun _ => ?_)
theorem xansi_MouseSgr.mono : ∀ a0 a1 a2 a3 k, LeO (xansi_MouseSgr.f k a0 a1 a2 a3) (xansi_MouseSgr.f (k + 1) a0 a1 a2 a3) := by
  intro a0 a1 a2 a3 k
  obtain ⟨ih0, ih1⟩ := xansi_MouseSgr.mono_l k
  unfold xansi_MouseSgr.f
  repeat' first
      | (with_reducible exact ih0 _ _ _ _)
      | (with_reducible exact ih1 _ _ _ _)
      | (with_reducible exact LeO.refl _)
      | (with_reducible exact LeO.none _)
      | (with_reducible refine LeO.ite ?_ ?_)
      | (with_reducible refine LeO.bind ?_ (fun _ => ?_))
      | exact ih0 _ _ _ _
      | exact ih1 _ _ _ _
      | exact LeO.none _
      | refine LeO.ite ?_ ?_
      | refine LeO.bind ?_ (fun _ => ?_)
set_option maxHeartbeats 8000000 in
set_option maxRecDepth 100000 in
theorem xansi_MouseSgr.calls (k : Nat) (a0 : Int) (a1 : Int) (a2 : Int) (a3 : Bool) (r : ByteArray) (w : World) (hLD : Laid w) (h : xansi_MouseSgr.f k a0 a1 a2 a3 = some r) :
    Calls Tryd.prog 106 #[.int .u8 a0, .int .i64 a1, .int .i64 a2, .bool a3] w fun e w' => e = .returned (.string r) ∧ Below w.heap.size w w' := by
  have HLD := Aside0.mk hLD
  clear hLD
  have HB := Aside0.mk (Below.refl w.heap.size w)
  have H : (if a3 = true then (xansi_MouseSgr.j0 k a0 a1 a2 109) else (xansi_MouseSgr.j0 k a0 a1 a2 77)) = some r := h
  clear h
  have HC5 := Aside0.mk H
  clear H
  go_enter Tryd.func106, Tryd.ntmps106
  go_upto_if 10 with (fail)
  go_cut [9] (fun v9 wc => ∃ (kq : Nat) (x9_4 : Int), v9 = .int .i32 x9_4 ∧ Aside0 (xansi_MouseSgr.j0 kq a0 a1 a2 x9_4 = some r) ∧ Aside0 (kq ≤ k) ∧ Aside0 (Below w.heap.size w wc))
  case first =>
    have H := HC5.out
    clear HC5
    by_cases c6 : a3 = true
    · subst c6
      have H1 : (xansi_MouseSgr.j0 k a0 a1 a2 109) = some r := by rw [if_pos rfl] at H; exact H
      clear H
      have H := H1
      clear H1
      have H' := Aside0.mk H
      clear H
      go_wp2
      go_meet
      case rel => exact ⟨_, (109), (by first | rfl | (simp; done) | (simp [*]; done)), H', ⟨by first | omega | exact Nat.le_refl _⟩, ⟨by repeat (first | (with_reducible first | exact HB.out | apply below_alloc | apply Go.Proofs.YtplmmblofhhikaaDoor.Ext.below_bytes | apply pw_below_drewN | apply below_drew1) | exact HB.out)⟩⟩
    · replace c6 := Bool.eq_false_iff.mpr c6
      subst c6
      have H1 : (xansi_MouseSgr.j0 k a0 a1 a2 77) = some r := by rw [if_neg (show ¬ (false = true) by decide)] at H; exact H
      clear H
      have H := H1
      clear H1
      have H' := Aside0.mk H
      clear H
      go_wp2
      go_meet
      case rel => exact ⟨_, (77), (by first | rfl | (simp; done) | (simp [*]; done)), H', ⟨by first | omega | exact Nat.le_refl _⟩, ⟨by repeat (first | (with_reducible first | exact HB.out | apply below_alloc | apply Go.Proofs.YtplmmblofhhikaaDoor.Ext.below_bytes | apply pw_below_drewN | apply below_drew1) | exact HB.out)⟩⟩
  case rest =>
    clear HC5
    try clear c1
    try clear p2
    try clear c6
    obtain ⟨kq, x9_4, rfl, HA, HJ4, HB⟩ := hcut
    cases kq with
    | zero => exact absurd HA.out (by simp [xansi_MouseSgr.j0])
    | succ kj4 =>
      have H := HA.out
      clear HA
      simp only [xansi_MouseSgr.j0] at H
      have HC7 := Aside0.mk H
      clear H
      go_upto_if 12 with (fail)
      go_cut [1] (fun v1 wc => ∃ (kq : Nat) (x1_6 : Int), v1 = .int .i64 x1_6 ∧ Aside0 (xansi_MouseSgr.j1 kq a0 x1_6 a2 x9_4 = some r) ∧ Aside0 (kq ≤ kj4) ∧ Aside0 (Below w.heap.size w wc))
      case first =>
        have H := HC7.out
        clear HC7
        by_cases c8 : a1 < 0
        · rw [if_pos c8] at H
          have c8b0 : decide (a1 < 0) = true := decide_eq_true c8
          clear c8
          (first | rw [c8b0] | (simp only [i64_w, i32_w]; rw [c8b0]) | skip)
          have H' := Aside0.mk H
          clear H
          go_wp2
          go_meet
          case rel => exact ⟨_, (wrap64 (-a1)), (by first | rfl | (simp; done) | (simp [*]; done)), H', ⟨by have := HJ4.out; first | omega | exact Nat.le_refl _⟩, ⟨by repeat (first | (with_reducible first | exact HB.out | apply below_alloc | apply Go.Proofs.YtplmmblofhhikaaDoor.Ext.below_bytes | apply pw_below_drewN | apply below_drew1) | exact HB.out)⟩⟩
        · rw [if_neg c8] at H
          have c8b0 : decide (a1 < 0) = false := decide_eq_false c8
          clear c8
          (first | rw [c8b0] | (simp only [i64_w, i32_w]; rw [c8b0]) | skip)
          have H' := Aside0.mk H
          clear H
          go_wp2
          go_meet
          case rel => exact ⟨_, (a1), (by first | rfl | (simp; done) | (simp [*]; done)), H', ⟨by have := HJ4.out; first | omega | exact Nat.le_refl _⟩, ⟨by repeat (first | (with_reducible first | exact HB.out | apply below_alloc | apply Go.Proofs.YtplmmblofhhikaaDoor.Ext.below_bytes | apply pw_below_drewN | apply below_drew1) | exact HB.out)⟩⟩
      case rest =>
        clear HC7
        try clear c1
        try clear p2
        try clear c6
        try clear p6
        try clear c8
        try clear c8b0
        try clear p2
        obtain ⟨kq, x1_6, rfl, HA, HJ6, HB⟩ := hcut
        cases kq with
        | zero => exact absurd HA.out (by simp [xansi_MouseSgr.j1])
        | succ kj6 =>
          have H := HA.out
          clear HA
          simp only [xansi_MouseSgr.j1] at H
          by_cases c9 : a2 < 0
          · rw [if_pos c9] at H
            have c9b0 : decide (a2 < 0) = true := decide_eq_true c9
            clear c9
            replace H := Option.bind_eq_some_iff.mp H
            obtain ⟨t203, A100, H⟩ := H
            replace H : (if 3 + t203.size ≤ 9223372036854775807 then (if 3 + t203.size + 1 ≤ 9223372036854775807 then ((strconv_Itoa.f (wrap64 (x1_6 + 1))).bind fun t204 => (if 3 + t203.size + 1 + t204.size ≤ 9223372036854775807 then (if 3 + t203.size + 1 + t204.size + 1 ≤ 9223372036854775807 then ((strconv_Itoa.f (wrap64 ((wrap64 (-a2)) + 1))).bind fun t205 => (if 3 + t203.size + 1 + t204.size + 1 + t205.size ≤ 9223372036854775807 then (if 3 + t203.size + 1 + t204.size + 1 + t205.size + (Utf8.encode x9_4).size ≤ 9223372036854775807 then (some (((((((⟨#[27, 91, 60]⟩ : ByteArray) ++ t203) ++ (⟨#[59]⟩ : ByteArray)) ++ t204) ++ (⟨#[59]⟩ : ByteArray)) ++ t205) ++ (Utf8.encode x9_4))) else (none)) else (none))) else (none)) else (none))) else (none)) else (none)) = some r := H
            have A10 := Aside0.mk A100
            clear A100
            by_cases c11 : 3 + t203.size ≤ 9223372036854775807
            · rw [if_pos c11] at H
              have c11b0 := eq_true c11
              have c11b1 : decide (3 + t203.size ≤ 9223372036854775807) = true := decide_eq_true c11
              try have c11b2 : (9223372036854775807 < 3 + t203.size) = False := eq_false (Nat.not_lt.2 c11)
              by_cases c12 : 3 + t203.size + 1 ≤ 9223372036854775807
              · rw [if_pos c12] at H
                have c12b0 := eq_true c12
                have c12b1 : decide (3 + t203.size + 1 ≤ 9223372036854775807) = true := decide_eq_true c12
                try have c12b2 : (9223372036854775807 < 3 + t203.size + 1) = False := eq_false (Nat.not_lt.2 c12)
                replace H := Option.bind_eq_some_iff.mp H
                obtain ⟨t204, A130, H⟩ := H
                replace H : (if 3 + t203.size + 1 + t204.size ≤ 9223372036854775807 then (if 3 + t203.size + 1 + t204.size + 1 ≤ 9223372036854775807 then ((strconv_Itoa.f (wrap64 ((wrap64 (-a2)) + 1))).bind fun t205 => (if 3 + t203.size + 1 + t204.size + 1 + t205.size ≤ 9223372036854775807 then (if 3 + t203.size + 1 + t204.size + 1 + t205.size + (Utf8.encode x9_4).size ≤ 9223372036854775807 then (some (((((((⟨#[27, 91, 60]⟩ : ByteArray) ++ t203) ++ (⟨#[59]⟩ : ByteArray)) ++ t204) ++ (⟨#[59]⟩ : ByteArray)) ++ t205) ++ (Utf8.encode x9_4))) else (none)) else (none))) else (none)) else (none)) = some r := H
                have A13 := Aside0.mk A130
                clear A130
                by_cases c14 : 3 + t203.size + 1 + t204.size ≤ 9223372036854775807
                · rw [if_pos c14] at H
                  have c14b0 := eq_true c14
                  have c14b1 : decide (3 + t203.size + 1 + t204.size ≤ 9223372036854775807) = true := decide_eq_true c14
                  try have c14b2 : (9223372036854775807 < 3 + t203.size + 1 + t204.size) = False := eq_false (Nat.not_lt.2 c14)
                  by_cases c15 : 3 + t203.size + 1 + t204.size + 1 ≤ 9223372036854775807
                  · rw [if_pos c15] at H
                    have c15b0 := eq_true c15
                    have c15b1 : decide (3 + t203.size + 1 + t204.size + 1 ≤ 9223372036854775807) = true := decide_eq_true c15
                    try have c15b2 : (9223372036854775807 < 3 + t203.size + 1 + t204.size + 1) = False := eq_false (Nat.not_lt.2 c15)
                    replace H := Option.bind_eq_some_iff.mp H
                    obtain ⟨t205, A160, H⟩ := H
                    replace H : (if 3 + t203.size + 1 + t204.size + 1 + t205.size ≤ 9223372036854775807 then (if 3 + t203.size + 1 + t204.size + 1 + t205.size + (Utf8.encode x9_4).size ≤ 9223372036854775807 then (some (((((((⟨#[27, 91, 60]⟩ : ByteArray) ++ t203) ++ (⟨#[59]⟩ : ByteArray)) ++ t204) ++ (⟨#[59]⟩ : ByteArray)) ++ t205) ++ (Utf8.encode x9_4))) else (none)) else (none)) = some r := H
                    have A16 := Aside0.mk A160
                    clear A160
                    by_cases c17 : 3 + t203.size + 1 + t204.size + 1 + t205.size ≤ 9223372036854775807
                    · rw [if_pos c17] at H
                      have c17b0 := eq_true c17
                      have c17b1 : decide (3 + t203.size + 1 + t204.size + 1 + t205.size ≤ 9223372036854775807) = true := decide_eq_true c17
                      try have c17b2 : (9223372036854775807 < 3 + t203.size + 1 + t204.size + 1 + t205.size) = False := eq_false (Nat.not_lt.2 c17)
                      by_cases c18 : 3 + t203.size + 1 + t204.size + 1 + t205.size + (Utf8.encode x9_4).size ≤ 9223372036854775807
                      · rw [if_pos c18] at H
                        have c18b0 := eq_true c18
                        have c18b1 : decide (3 + t203.size + 1 + t204.size + 1 + t205.size + (Utf8.encode x9_4).size ≤ 9223372036854775807) = true := decide_eq_true c18
                        try have c18b2 : (9223372036854775807 < 3 + t203.size + 1 + t204.size + 1 + t205.size + (Utf8.encode x9_4).size) = False := eq_false (Nat.not_lt.2 c18)
                        obtain rfl := Option.some.inj H
                        go_wp2_with (first | ((with_reducible refine gate_callee (f := 109) rfl ?_); refine goesL_ (some 21) rfl rfl Tryd.func109 (by kernel_rfl) rfl #[.int .i64 (wrap64 (a0))] rfl (by (try simp only [List.map_toArray, List.map_cons, List.map_nil]); first | done | rfl | (simp only [List.length_drop, List.length_take]; rfl) | (simp [Act.eval, *]; done)) ?_; (with_reducible refine (strconv_Itoa.calls (wrap64 (a0)) t203 _ ?side1 A10.out).mono ?_); (case side1 => exact HLD.out.below (by repeat (first | (with_reducible first | exact HB.out | apply below_alloc | apply Go.Proofs.YtplmmblofhhikaaDoor.Ext.below_bytes | apply pw_below_drewN | apply below_drew1) | exact HB.out))); rintro e w19 ⟨rfl, hb⟩; refine ⟨_, rfl, ?_⟩; have n0_ := Aside0.mk (below_step (by repeat (first | (with_reducible first | exact HB.out | apply below_alloc | apply Go.Proofs.YtplmmblofhhikaaDoor.Ext.below_bytes | apply pw_below_drewN | apply below_drew1) | exact HB.out)) hb); clear HB; have HB := n0_; clear n0_; (try clear hb); (try clear hb2); (try clear hk); (try clear hi)) | ((with_reducible refine gate_callee (f := 109) rfl ?_); refine goesL_ (some 26) rfl rfl Tryd.func109 (by kernel_rfl) rfl #[.int .i64 (wrap64 (x1_6 + 1))] rfl (by (try simp only [List.map_toArray, List.map_cons, List.map_nil]); first | done | rfl | (simp only [List.length_drop, List.length_take]; rfl) | (simp [Act.eval, *]; done)) ?_; (with_reducible refine (strconv_Itoa.calls (wrap64 (x1_6 + 1)) t204 _ ?side1 A13.out).mono ?_); (case side1 => exact HLD.out.below (by repeat (first | (with_reducible first | exact HB.out | apply below_alloc | apply Go.Proofs.YtplmmblofhhikaaDoor.Ext.below_bytes | apply pw_below_drewN | apply below_drew1) | exact HB.out))); rintro e w20 ⟨rfl, hb⟩; refine ⟨_, rfl, ?_⟩; have n0_ := Aside0.mk (below_step (by repeat (first | (with_reducible first | exact HB.out | apply below_alloc | apply Go.Proofs.YtplmmblofhhikaaDoor.Ext.below_bytes | apply pw_below_drewN | apply below_drew1) | exact HB.out)) hb); clear HB; have HB := n0_; clear n0_; (try clear hb); (try clear hb2); (try clear hk); (try clear hi)) | ((with_reducible refine gate_callee (f := 109) rfl ?_); refine goesL_ (some 31) rfl rfl Tryd.func109 (by kernel_rfl) rfl #[.int .i64 (wrap64 ((wrap64 (-a2)) + 1))] rfl (by (try simp only [List.map_toArray, List.map_cons, List.map_nil]); first | done | rfl | (simp only [List.length_drop, List.length_take]; rfl) | (simp [Act.eval, *]; done)) ?_; (with_reducible refine (strconv_Itoa.calls (wrap64 ((wrap64 (-a2)) + 1)) t205 _ ?side1 A16.out).mono ?_); (case side1 => exact HLD.out.below (by repeat (first | (with_reducible first | exact HB.out | apply below_alloc | apply Go.Proofs.YtplmmblofhhikaaDoor.Ext.below_bytes | apply pw_below_drewN | apply below_drew1) | exact HB.out))); rintro e w21 ⟨rfl, hb⟩; refine ⟨_, rfl, ?_⟩; have n0_ := Aside0.mk (below_step (by repeat (first | (with_reducible first | exact HB.out | apply below_alloc | apply Go.Proofs.YtplmmblofhhikaaDoor.Ext.below_bytes | apply pw_below_drewN | apply below_drew1) | exact HB.out)) hb); clear HB; have HB := n0_; clear n0_; (try clear hb); (try clear hb2); (try clear hk); (try clear hi)))
                        go_ret
                        exact ⟨by first | rfl | (simp [errW_none, errW_some] <;> rfl) | (simp [*, errW_none, errW_some] <;> rfl), by repeat (first | (with_reducible first | exact HB.out | apply below_alloc | apply Go.Proofs.YtplmmblofhhikaaDoor.Ext.below_bytes | apply pw_below_drewN | apply below_drew1) | exact HB.out)⟩
                      · rw [if_neg c18] at H
                        exact absurd H (by simp)
                    · rw [if_neg c17] at H
                      exact absurd H (by simp)
                  · rw [if_neg c15] at H
                    exact absurd H (by simp)
                · rw [if_neg c14] at H
                  exact absurd H (by simp)
              · rw [if_neg c12] at H
                exact absurd H (by simp)
            · rw [if_neg c11] at H
              exact absurd H (by simp)
          · rw [if_neg c9] at H
            have c9b0 : decide (a2 < 0) = false := decide_eq_false c9
            clear c9
            replace H := Option.bind_eq_some_iff.mp H
            obtain ⟨t206, A220, H⟩ := H
            replace H : (if 3 + t206.size ≤ 9223372036854775807 then (if 3 + t206.size + 1 ≤ 9223372036854775807 then ((strconv_Itoa.f (wrap64 (x1_6 + 1))).bind fun t207 => (if 3 + t206.size + 1 + t207.size ≤ 9223372036854775807 then (if 3 + t206.size + 1 + t207.size + 1 ≤ 9223372036854775807 then ((strconv_Itoa.f (wrap64 (a2 + 1))).bind fun t208 => (if 3 + t206.size + 1 + t207.size + 1 + t208.size ≤ 9223372036854775807 then (if 3 + t206.size + 1 + t207.size + 1 + t208.size + (Utf8.encode x9_4).size ≤ 9223372036854775807 then (some (((((((⟨#[27, 91, 60]⟩ : ByteArray) ++ t206) ++ (⟨#[59]⟩ : ByteArray)) ++ t207) ++ (⟨#[59]⟩ : ByteArray)) ++ t208) ++ (Utf8.encode x9_4))) else (none)) else (none))) else (none)) else (none))) else (none)) else (none)) = some r := H
            have A22 := Aside0.mk A220
            clear A220
            by_cases c23 : 3 + t206.size ≤ 9223372036854775807
            · rw [if_pos c23] at H
              have c23b0 := eq_true c23
              have c23b1 : decide (3 + t206.size ≤ 9223372036854775807) = true := decide_eq_true c23
              try have c23b2 : (9223372036854775807 < 3 + t206.size) = False := eq_false (Nat.not_lt.2 c23)
              by_cases c24 : 3 + t206.size + 1 ≤ 9223372036854775807
              · rw [if_pos c24] at H
                have c24b0 := eq_true c24
                have c24b1 : decide (3 + t206.size + 1 ≤ 9223372036854775807) = true := decide_eq_true c24
                try have c24b2 : (9223372036854775807 < 3 + t206.size + 1) = False := eq_false (Nat.not_lt.2 c24)
                replace H := Option.bind_eq_some_iff.mp H
                obtain ⟨t207, A250, H⟩ := H
                replace H : (if 3 + t206.size + 1 + t207.size ≤ 9223372036854775807 then (if 3 + t206.size + 1 + t207.size + 1 ≤ 9223372036854775807 then ((strconv_Itoa.f (wrap64 (a2 + 1))).bind fun t208 => (if 3 + t206.size + 1 + t207.size + 1 + t208.size ≤ 9223372036854775807 then (if 3 + t206.size + 1 + t207.size + 1 + t208.size + (Utf8.encode x9_4).size ≤ 9223372036854775807 then (some (((((((⟨#[27, 91, 60]⟩ : ByteArray) ++ t206) ++ (⟨#[59]⟩ : ByteArray)) ++ t207) ++ (⟨#[59]⟩ : ByteArray)) ++ t208) ++ (Utf8.encode x9_4))) else (none)) else (none))) else (none)) else (none)) = some r := H
                have A25 := Aside0.mk A250
                clear A250
                by_cases c26 : 3 + t206.size + 1 + t207.size ≤ 9223372036854775807
                · rw [if_pos c26] at H
                  have c26b0 := eq_true c26
                  have c26b1 : decide (3 + t206.size + 1 + t207.size ≤ 9223372036854775807) = true := decide_eq_true c26
                  try have c26b2 : (9223372036854775807 < 3 + t206.size + 1 + t207.size) = False := eq_false (Nat.not_lt.2 c26)
                  by_cases c27 : 3 + t206.size + 1 + t207.size + 1 ≤ 9223372036854775807
                  · rw [if_pos c27] at H
                    have c27b0 := eq_true c27
                    have c27b1 : decide (3 + t206.size + 1 + t207.size + 1 ≤ 9223372036854775807) = true := decide_eq_true c27
                    try have c27b2 : (9223372036854775807 < 3 + t206.size + 1 + t207.size + 1) = False := eq_false (Nat.not_lt.2 c27)
                    replace H := Option.bind_eq_some_iff.mp H
                    obtain ⟨t208, A280, H⟩ := H
                    replace H : (if 3 + t206.size + 1 + t207.size + 1 + t208.size ≤ 9223372036854775807 then (if 3 + t206.size + 1 + t207.size + 1 + t208.size + (Utf8.encode x9_4).size ≤ 9223372036854775807 then (some (((((((⟨#[27, 91, 60]⟩ : ByteArray) ++ t206) ++ (⟨#[59]⟩ : ByteArray)) ++ t207) ++ (⟨#[59]⟩ : ByteArray)) ++ t208) ++ (Utf8.encode x9_4))) else (none)) else (none)) = some r := H
                    have A28 := Aside0.mk A280
                    clear A280
                    by_cases c29 : 3 + t206.size + 1 + t207.size + 1 + t208.size ≤ 9223372036854775807
                    · rw [if_pos c29] at H
                      have c29b0 := eq_true c29
                      have c29b1 : decide (3 + t206.size + 1 + t207.size + 1 + t208.size ≤ 9223372036854775807) = true := decide_eq_true c29
                      try have c29b2 : (9223372036854775807 < 3 + t206.size + 1 + t207.size + 1 + t208.size) = False := eq_false (Nat.not_lt.2 c29)
                      by_cases c30 : 3 + t206.size + 1 + t207.size + 1 + t208.size + (Utf8.encode x9_4).size ≤ 9223372036854775807
                      · rw [if_pos c30] at H
                        have c30b0 := eq_true c30
                        have c30b1 : decide (3 + t206.size + 1 + t207.size + 1 + t208.size + (Utf8.encode x9_4).size ≤ 9223372036854775807) = true := decide_eq_true c30
                        try have c30b2 : (9223372036854775807 < 3 + t206.size + 1 + t207.size + 1 + t208.size + (Utf8.encode x9_4).size) = False := eq_false (Nat.not_lt.2 c30)
                        obtain rfl := Option.some.inj H
                        go_wp2_with (first | ((with_reducible refine gate_callee (f := 109) rfl ?_); refine goesL_ (some 21) rfl rfl Tryd.func109 (by kernel_rfl) rfl #[.int .i64 (wrap64 (a0))] rfl (by (try simp only [List.map_toArray, List.map_cons, List.map_nil]); first | done | rfl | (simp only [List.length_drop, List.length_take]; rfl) | (simp [Act.eval, *]; done)) ?_; (with_reducible refine (strconv_Itoa.calls (wrap64 (a0)) t206 _ ?side1 A22.out).mono ?_); (case side1 => exact HLD.out.below (by repeat (first | (with_reducible first | exact HB.out | apply below_alloc | apply Go.Proofs.YtplmmblofhhikaaDoor.Ext.below_bytes | apply pw_below_drewN | apply below_drew1) | exact HB.out))); rintro e w31 ⟨rfl, hb⟩; refine ⟨_, rfl, ?_⟩; have n0_ := Aside0.mk (below_step (by repeat (first | (with_reducible first | exact HB.out | apply below_alloc | apply Go.Proofs.YtplmmblofhhikaaDoor.Ext.below_bytes | apply pw_below_drewN | apply below_drew1) | exact HB.out)) hb); clear HB; have HB := n0_; clear n0_; (try clear hb); (try clear hb2); (try clear hk); (try clear hi)) | ((with_reducible refine gate_callee (f := 109) rfl ?_); refine goesL_ (some 26) rfl rfl Tryd.func109 (by kernel_rfl) rfl #[.int .i64 (wrap64 (x1_6 + 1))] rfl (by (try simp only [List.map_toArray, List.map_cons, List.map_nil]); first | done | rfl | (simp only [List.length_drop, List.length_take]; rfl) | (simp [Act.eval, *]; done)) ?_; (with_reducible refine (strconv_Itoa.calls (wrap64 (x1_6 + 1)) t207 _ ?side1 A25.out).mono ?_); (case side1 => exact HLD.out.below (by repeat (first | (with_reducible first | exact HB.out | apply below_alloc | apply Go.Proofs.YtplmmblofhhikaaDoor.Ext.below_bytes | apply pw_below_drewN | apply below_drew1) | exact HB.out))); rintro e w32 ⟨rfl, hb⟩; refine ⟨_, rfl, ?_⟩; have n0_ := Aside0.mk (below_step (by repeat (first | (with_reducible first | exact HB.out | apply below_alloc | apply Go.Proofs.YtplmmblofhhikaaDoor.Ext.below_bytes | apply pw_below_drewN | apply below_drew1) | exact HB.out)) hb); clear HB; have HB := n0_; clear n0_; (try clear hb); (try clear hb2); (try clear hk); (try clear hi)) | ((with_reducible refine gate_callee (f := 109) rfl ?_); refine goesL_ (some 31) rfl rfl Tryd.func109 (by kernel_rfl) rfl #[.int .i64 (wrap64 (a2 + 1))] rfl (by (try simp only [List.map_toArray, List.map_cons, List.map_nil]); first | done | rfl | (simp only [List.length_drop, List.length_take]; rfl) | (simp [Act.eval, *]; done)) ?_; (with_reducible refine (strconv_Itoa.calls (wrap64 (a2 + 1)) t208 _ ?side1 A28.out).mono ?_); (case side1 => exact HLD.out.below (by repeat (first | (with_reducible first | exact HB.out | apply below_alloc | apply Go.Proofs.YtplmmblofhhikaaDoor.Ext.below_bytes | apply pw_below_drewN | apply below_drew1) | exact HB.out))); rintro e w33 ⟨rfl, hb⟩; refine ⟨_, rfl, ?_⟩; have n0_ := Aside0.mk (below_step (by repeat (first | (with_reducible first | exact HB.out | apply below_alloc | apply Go.Proofs.YtplmmblofhhikaaDoor.Ext.below_bytes | apply pw_below_drewN | apply below_drew1) | exact HB.out)) hb); clear HB; have HB := n0_; clear n0_; (try clear hb); (try clear hb2); (try clear hk); (try clear hi)))
                        go_ret
                        exact ⟨by first | rfl | (simp [errW_none, errW_some] <;> rfl) | (simp [*, errW_none, errW_some] <;> rfl), by repeat (first | (with_reducible first | exact HB.out | apply below_alloc | apply Go.Proofs.YtplmmblofhhikaaDoor.Ext.below_bytes | apply pw_below_drewN | apply below_drew1) | exact HB.out)⟩
                      · rw [if_neg c30] at H
                        exact absurd H (by simp)
                    · rw [if_neg c29] at H
                      exact absurd H (by simp)
                  · rw [if_neg c27] at H
                    exact absurd H (by simp)
                · rw [if_neg c26] at H
                  exact absurd H (by simp)
              · rw [if_neg c24] at H
                exact absurd H (by simp)
            · rw [if_neg c23] at H
              exact absurd H (by simp)

/-! ### impl_MouseSgr: function 33 -/
def impl_MouseSgr.f (k : Nat) (a0 : Int) (a1 : Int) (a2 : Int) (a3 : Bool) : Option (ByteArray) := (xansi_MouseSgr.f k a0 a1 a2 a3).bind fun t209 => (some t209)
theorem impl_MouseSgr.mono : ∀ a0 a1 a2 a3 k, LeO (impl_MouseSgr.f k a0 a1 a2 a3) (impl_MouseSgr.f (k + 1) a0 a1 a2 a3) := by
  intro a0 a1 a2 a3 k
  unfold impl_MouseSgr.f
  repeat' first
      | (with_reducible exact xansi_MouseSgr.mono _ _ _ _ _)
      | (with_reducible exact LeO.refl _)
      | (with_reducible exact LeO.none _)
      | (with_reducible refine LeO.ite ?_ ?_)
      | (with_reducible refine LeO.bind ?_ (fun _ => ?_))
      | exact xansi_MouseSgr.mono _ _ _ _ _
      | exact LeO.none _
      | refine LeO.ite ?_ ?_
      | refine LeO.bind ?_ (fun _ => ?_)
set_option maxHeartbeats 8000000 in
set_option maxRecDepth 100000 in
theorem impl_MouseSgr.calls (k : Nat) (a0 : Int) (a1 : Int) (a2 : Int) (a3 : Bool) (r : ByteArray) (w : World) (hLD : Laid w) (h : impl_MouseSgr.f k a0 a1 a2 a3 = some r) :
    Calls Tryd.prog 33 #[.int .u8 a0, .int .i64 a1, .int .i64 a2, .bool a3] w fun e w' => e = .returned (.string r) ∧ Below w.heap.size w w' := by
  have HLD := Aside0.mk hLD
  clear hLD
  have HB := Aside0.mk (Below.refl w.heap.size w)
  have H : ((xansi_MouseSgr.f k a0 a1 a2 a3).bind fun t209 => (some t209)) = some r := h
  clear h
  replace H := Option.bind_eq_some_iff.mp H
  obtain ⟨t209, A50, H⟩ := H
  replace H : (some t209) = some r := H
  have A5 := Aside0.mk A50
  clear A50
  obtain rfl := Option.some.inj H
  go_enter Tryd.func33, Tryd.ntmps33
  go_wp2_with (first | ((with_reducible refine gate_callee (f := 106) rfl ?_); refine goesL_ (some 13) rfl rfl Tryd.func106 (by kernel_rfl) rfl #[.int .u8 a0, .int .i64 a1, .int .i64 a2, .bool a3] rfl (by (try simp only [List.map_toArray, List.map_cons, List.map_nil]); first | done | rfl | (simp only [List.length_drop, List.length_take]; rfl) | (simp [Act.eval, *]; done)) ?_; (with_reducible refine (xansi_MouseSgr.calls k a0 a1 a2 a3 t209 _ ?side1 A5.out).mono ?_); (case side1 => exact HLD.out.below (by repeat (first | (with_reducible first | exact HB.out | apply below_alloc | apply Go.Proofs.YtplmmblofhhikaaDoor.Ext.below_bytes | apply pw_below_drewN | apply below_drew1) | exact HB.out))); rintro e w6 ⟨rfl, hb⟩; refine ⟨_, rfl, ?_⟩; have n0_ := Aside0.mk (below_step (by repeat (first | (with_reducible first | exact HB.out | apply below_alloc | apply Go.Proofs.YtplmmblofhhikaaDoor.Ext.below_bytes | apply pw_below_drewN | apply below_drew1) | exact HB.out)) hb); clear HB; have HB := n0_; clear n0_; (try clear hb); (try clear hb2); (try clear hk); (try clear hi)))
  go_ret
  exact ⟨by first | rfl | (simp [errW_none, errW_some] <;> rfl) | (simp [*, errW_none, errW_some] <;> rfl), by repeat (first | (with_reducible first | exact HB.out | apply below_alloc | apply Go.Proofs.YtplmmblofhhikaaDoor.Ext.below_bytes | apply pw_below_drewN | apply below_drew1) | exact HB.out)⟩

/-! ### spec_MadeMouse: function 34 -/
def spec_MadeMouse.f (k : Nat) (a0 : Int) (a1 : Int) (a2 : Int) (a3 : Bool) : Option (ByteArray) := if a3 = true then ((spec_Digits.f k (wrap64 (a0))).bind fun t210 => (if 3 + t210.size ≤ 9223372036854775807 then (if 3 + t210.size + 1 ≤ 9223372036854775807 then ((spec_Digits.f k (wrap64 ((mx a1 (wrap64 (-a1))) + 1))).bind fun t211 => (if 3 + t210.size + 1 + t211.size ≤ 9223372036854775807 then (if 3 + t210.size + 1 + t211.size + 1 ≤ 9223372036854775807 then ((spec_Digits.f k (wrap64 ((mx a2 (wrap64 (-a2))) + 1))).bind fun t212 => (if 3 + t210.size + 1 + t211.size + 1 + t212.size ≤ 9223372036854775807 then (if 3 + t210.size + 1 + t211.size + 1 + t212.size + 1 ≤ 9223372036854775807 then (some (((((((⟨#[27, 91, 60]⟩ : ByteArray) ++ t210) ++ (⟨#[59]⟩ : ByteArray)) ++ t211) ++ (⟨#[59]⟩ : ByteArray)) ++ t212) ++ (⟨#[109]⟩ : ByteArray))) else (none)) else (none))) else (none)) else (none))) else (none)) else (none))) else ((spec_Digits.f k (wrap64 (a0))).bind fun t213 => (if 3 + t213.size ≤ 9223372036854775807 then (if 3 + t213.size + 1 ≤ 9223372036854775807 then ((spec_Digits.f k (wrap64 ((mx a1 (wrap64 (-a1))) + 1))).bind fun t214 => (if 3 + t213.size + 1 + t214.size ≤ 9223372036854775807 then (if 3 + t213.size + 1 + t214.size + 1 ≤ 9223372036854775807 then ((spec_Digits.f k (wrap64 ((mx a2 (wrap64 (-a2))) + 1))).bind fun t215 => (if 3 + t213.size + 1 + t214.size + 1 + t215.size ≤ 9223372036854775807 then (if 3 + t213.size + 1 + t214.size + 1 + t215.size + 1 ≤ 9223372036854775807 then (some (((((((⟨#[27, 91, 60]⟩ : ByteArray) ++ t213) ++ (⟨#[59]⟩ : ByteArray)) ++ t214) ++ (⟨#[59]⟩ : ByteArray)) ++ t215) ++ (⟨#[77]⟩ : ByteArray))) else (none)) else (none))) else (none)) else (none))) else (none)) else (none)))
theorem spec_MadeMouse.mono : ∀ a0 a1 a2 a3 k, LeO (spec_MadeMouse.f k a0 a1 a2 a3) (spec_MadeMouse.f (k + 1) a0 a1 a2 a3) := by
  intro a0 a1 a2 a3 k
  unfold spec_MadeMouse.f
  repeat' first
      | (with_reducible exact spec_Digits.mono _ _)
      | (with_reducible exact LeO.refl _)
      | (with_reducible exact LeO.none _)
      | (with_reducible refine LeO.ite ?_ ?_)
      | (with_reducible refine LeO.bind ?_ (fun _ => ?_))
      | exact spec_Digits.mono _ _
      | exact LeO.none _
      | refine LeO.ite ?_ ?_
      | refine LeO.bind ?_ (fun _ => ?_)
set_option maxHeartbeats 8000000 in
set_option maxRecDepth 100000 in
theorem spec_MadeMouse.calls (k : Nat) (a0 : Int) (a1 : Int) (a2 : Int) (a3 : Bool) (r : ByteArray) (w : World) (h : spec_MadeMouse.f k a0 a1 a2 a3 = some r) :
    Calls Tryd.prog 34 #[.int .u8 a0, .int .i64 a1, .int .i64 a2, .bool a3] w fun e w' => e = .returned (.string r) ∧ Below w.heap.size w w' := by
  have HB := Aside0.mk (Below.refl w.heap.size w)
  have H : (if a3 = true then ((spec_Digits.f k (wrap64 (a0))).bind fun t210 => (if 3 + t210.size ≤ 9223372036854775807 then (if 3 + t210.size + 1 ≤ 9223372036854775807 then ((spec_Digits.f k (wrap64 ((mx a1 (wrap64 (-a1))) + 1))).bind fun t211 => (if 3 + t210.size + 1 + t211.size ≤ 9223372036854775807 then (if 3 + t210.size + 1 + t211.size + 1 ≤ 9223372036854775807 then ((spec_Digits.f k (wrap64 ((mx a2 (wrap64 (-a2))) + 1))).bind fun t212 => (if 3 + t210.size + 1 + t211.size + 1 + t212.size ≤ 9223372036854775807 then (if 3 + t210.size + 1 + t211.size + 1 + t212.size + 1 ≤ 9223372036854775807 then (some (((((((⟨#[27, 91, 60]⟩ : ByteArray) ++ t210) ++ (⟨#[59]⟩ : ByteArray)) ++ t211) ++ (⟨#[59]⟩ : ByteArray)) ++ t212) ++ (⟨#[109]⟩ : ByteArray))) else (none)) else (none))) else (none)) else (none))) else (none)) else (none))) else ((spec_Digits.f k (wrap64 (a0))).bind fun t213 => (if 3 + t213.size ≤ 9223372036854775807 then (if 3 + t213.size + 1 ≤ 9223372036854775807 then ((spec_Digits.f k (wrap64 ((mx a1 (wrap64 (-a1))) + 1))).bind fun t214 => (if 3 + t213.size + 1 + t214.size ≤ 9223372036854775807 then (if 3 + t213.size + 1 + t214.size + 1 ≤ 9223372036854775807 then ((spec_Digits.f k (wrap64 ((mx a2 (wrap64 (-a2))) + 1))).bind fun t215 => (if 3 + t213.size + 1 + t214.size + 1 + t215.size ≤ 9223372036854775807 then (if 3 + t213.size + 1 + t214.size + 1 + t215.size + 1 ≤ 9223372036854775807 then (some (((((((⟨#[27, 91, 60]⟩ : ByteArray) ++ t213) ++ (⟨#[59]⟩ : ByteArray)) ++ t214) ++ (⟨#[59]⟩ : ByteArray)) ++ t215) ++ (⟨#[77]⟩ : ByteArray))) else (none)) else (none))) else (none)) else (none))) else (none)) else (none)))) = some r := h
  clear h
  by_cases c5 : a3 = true
  · subst c5
    have H1 : ((spec_Digits.f k (wrap64 (a0))).bind fun t210 => (if 3 + t210.size ≤ 9223372036854775807 then (if 3 + t210.size + 1 ≤ 9223372036854775807 then ((spec_Digits.f k (wrap64 ((mx a1 (wrap64 (-a1))) + 1))).bind fun t211 => (if 3 + t210.size + 1 + t211.size ≤ 9223372036854775807 then (if 3 + t210.size + 1 + t211.size + 1 ≤ 9223372036854775807 then ((spec_Digits.f k (wrap64 ((mx a2 (wrap64 (-a2))) + 1))).bind fun t212 => (if 3 + t210.size + 1 + t211.size + 1 + t212.size ≤ 9223372036854775807 then (if 3 + t210.size + 1 + t211.size + 1 + t212.size + 1 ≤ 9223372036854775807 then (some (((((((⟨#[27, 91, 60]⟩ : ByteArray) ++ t210) ++ (⟨#[59]⟩ : ByteArray)) ++ t211) ++ (⟨#[59]⟩ : ByteArray)) ++ t212) ++ (⟨#[109]⟩ : ByteArray))) else (none)) else (none))) else (none)) else (none))) else (none)) else (none))) = some r := by rw [if_pos rfl] at H; exact H
    clear H
    have H := H1
    clear H1
    replace H := Option.bind_eq_some_iff.mp H
    obtain ⟨t210, A60, H⟩ := H
    replace H : (if 3 + t210.size ≤ 9223372036854775807 then (if 3 + t210.size + 1 ≤ 9223372036854775807 then ((spec_Digits.f k (wrap64 ((mx a1 (wrap64 (-a1))) + 1))).bind fun t211 => (if 3 + t210.size + 1 + t211.size ≤ 9223372036854775807 then (if 3 + t210.size + 1 + t211.size + 1 ≤ 9223372036854775807 then ((spec_Digits.f k (wrap64 ((mx a2 (wrap64 (-a2))) + 1))).bind fun t212 => (if 3 + t210.size + 1 + t211.size + 1 + t212.size ≤ 9223372036854775807 then (if 3 + t210.size + 1 + t211.size + 1 + t212.size + 1 ≤ 9223372036854775807 then (some (((((((⟨#[27, 91, 60]⟩ : ByteArray) ++ t210) ++ (⟨#[59]⟩ : ByteArray)) ++ t211) ++ (⟨#[59]⟩ : ByteArray)) ++ t212) ++ (⟨#[109]⟩ : ByteArray))) else (none)) else (none))) else (none)) else (none))) else (none)) else (none)) = some r := H
    have A6 := Aside0.mk A60
    clear A60
    by_cases c7 : 3 + t210.size ≤ 9223372036854775807
    · rw [if_pos c7] at H
      have c7b0 := eq_true c7
      have c7b1 : decide (3 + t210.size ≤ 9223372036854775807) = true := decide_eq_true c7
      try have c7b2 : (9223372036854775807 < 3 + t210.size) = False := eq_false (Nat.not_lt.2 c7)
      by_cases c8 : 3 + t210.size + 1 ≤ 9223372036854775807
      · rw [if_pos c8] at H
        have c8b0 := eq_true c8
        have c8b1 : decide (3 + t210.size + 1 ≤ 9223372036854775807) = true := decide_eq_true c8
        try have c8b2 : (9223372036854775807 < 3 + t210.size + 1) = False := eq_false (Nat.not_lt.2 c8)
        obtain ⟨ji9, hji9⟩ : ∃ j_ : Int, (mx a1 (wrap64 (-a1))) = j_ := ⟨_, rfl⟩
        replace H : ((spec_Digits.f k (wrap64 ((ji9) + 1))).bind fun t211 => (if 3 + t210.size + 1 + t211.size ≤ 9223372036854775807 then (if 3 + t210.size + 1 + t211.size + 1 ≤ 9223372036854775807 then ((spec_Digits.f k (wrap64 ((mx a2 (wrap64 (-a2))) + 1))).bind fun t212 => (if 3 + t210.size + 1 + t211.size + 1 + t212.size ≤ 9223372036854775807 then (if 3 + t210.size + 1 + t211.size + 1 + t212.size + 1 ≤ 9223372036854775807 then (some (((((((⟨#[27, 91, 60]⟩ : ByteArray) ++ t210) ++ (⟨#[59]⟩ : ByteArray)) ++ t211) ++ (⟨#[59]⟩ : ByteArray)) ++ t212) ++ (⟨#[109]⟩ : ByteArray))) else (none)) else (none))) else (none)) else (none))) = some r := by first | (rw [hji9] at H; exact H) | (simp only [hji9] at H ⊢; exact H)
        (try rw [hji9] at A6)
        have hji9_ : (if a1 < (wrap64 (-a1)) then (wrap64 (-a1)) else a1) = ji9 := hji9
        replace H := Option.bind_eq_some_iff.mp H
        obtain ⟨t211, A100, H⟩ := H
        replace H : (if 3 + t210.size + 1 + t211.size ≤ 9223372036854775807 then (if 3 + t210.size + 1 + t211.size + 1 ≤ 9223372036854775807 then ((spec_Digits.f k (wrap64 ((mx a2 (wrap64 (-a2))) + 1))).bind fun t212 => (if 3 + t210.size + 1 + t211.size + 1 + t212.size ≤ 9223372036854775807 then (if 3 + t210.size + 1 + t211.size + 1 + t212.size + 1 ≤ 9223372036854775807 then (some (((((((⟨#[27, 91, 60]⟩ : ByteArray) ++ t210) ++ (⟨#[59]⟩ : ByteArray)) ++ t211) ++ (⟨#[59]⟩ : ByteArray)) ++ t212) ++ (⟨#[109]⟩ : ByteArray))) else (none)) else (none))) else (none)) else (none)) = some r := H
        have A10 := Aside0.mk A100
        clear A100
        by_cases c11 : 3 + t210.size + 1 + t211.size ≤ 9223372036854775807
        · rw [if_pos c11] at H
          have c11b0 := eq_true c11
          have c11b1 : decide (3 + t210.size + 1 + t211.size ≤ 9223372036854775807) = true := decide_eq_true c11
          try have c11b2 : (9223372036854775807 < 3 + t210.size + 1 + t211.size) = False := eq_false (Nat.not_lt.2 c11)
          by_cases c12 : 3 + t210.size + 1 + t211.size + 1 ≤ 9223372036854775807
          · rw [if_pos c12] at H
            have c12b0 := eq_true c12
            have c12b1 : decide (3 + t210.size + 1 + t211.size + 1 ≤ 9223372036854775807) = true := decide_eq_true c12
            try have c12b2 : (9223372036854775807 < 3 + t210.size + 1 + t211.size + 1) = False := eq_false (Nat.not_lt.2 c12)
            obtain ⟨ji13, hji13⟩ : ∃ j_ : Int, (mx a2 (wrap64 (-a2))) = j_ := ⟨_, rfl⟩
            replace H : ((spec_Digits.f k (wrap64 ((ji13) + 1))).bind fun t212 => (if 3 + t210.size + 1 + t211.size + 1 + t212.size ≤ 9223372036854775807 then (if 3 + t210.size + 1 + t211.size + 1 + t212.size + 1 ≤ 9223372036854775807 then (some (((((((⟨#[27, 91, 60]⟩ : ByteArray) ++ t210) ++ (⟨#[59]⟩ : ByteArray)) ++ t211) ++ (⟨#[59]⟩ : ByteArray)) ++ t212) ++ (⟨#[109]⟩ : ByteArray))) else (none)) else (none))) = some r := by first | (rw [hji13] at H; exact H) | (simp only [hji13] at H ⊢; exact H)
            (try rw [hji13] at A6)
            (try rw [hji13] at A10)
            have hji13_ : (if a2 < (wrap64 (-a2)) then (wrap64 (-a2)) else a2) = ji13 := hji13
            replace H := Option.bind_eq_some_iff.mp H
            obtain ⟨t212, A140, H⟩ := H
            replace H : (if 3 + t210.size + 1 + t211.size + 1 + t212.size ≤ 9223372036854775807 then (if 3 + t210.size + 1 + t211.size + 1 + t212.size + 1 ≤ 9223372036854775807 then (some (((((((⟨#[27, 91, 60]⟩ : ByteArray) ++ t210) ++ (⟨#[59]⟩ : ByteArray)) ++ t211) ++ (⟨#[59]⟩ : ByteArray)) ++ t212) ++ (⟨#[109]⟩ : ByteArray))) else (none)) else (none)) = some r := H
            have A14 := Aside0.mk A140
            clear A140
            by_cases c15 : 3 + t210.size + 1 + t211.size + 1 + t212.size ≤ 9223372036854775807
            · rw [if_pos c15] at H
              have c15b0 := eq_true c15
              have c15b1 : decide (3 + t210.size + 1 + t211.size + 1 + t212.size ≤ 9223372036854775807) = true := decide_eq_true c15
              try have c15b2 : (9223372036854775807 < 3 + t210.size + 1 + t211.size + 1 + t212.size) = False := eq_false (Nat.not_lt.2 c15)
              by_cases c16 : 3 + t210.size + 1 + t211.size + 1 + t212.size + 1 ≤ 9223372036854775807
              · rw [if_pos c16] at H
                have c16b0 := eq_true c16
                have c16b1 : decide (3 + t210.size + 1 + t211.size + 1 + t212.size + 1 ≤ 9223372036854775807) = true := decide_eq_true c16
                try have c16b2 : (9223372036854775807 < 3 + t210.size + 1 + t211.size + 1 + t212.size + 1) = False := eq_false (Nat.not_lt.2 c16)
                obtain rfl := Option.some.inj H
                go_enter Tryd.func34, Tryd.ntmps34
                go_wp2_with (first | ((with_reducible refine gate_callee (f := 71) rfl ?_); refine goesL_ (some 13) rfl rfl Tryd.func71 (by kernel_rfl) rfl #[.int .i64 (wrap64 (a0))] rfl (by (try simp only [List.map_toArray, List.map_cons, List.map_nil]); first | done | rfl | (simp only [List.length_drop, List.length_take]; rfl) | (simp [Act.eval, *]; done)) ?_; (with_reducible refine (spec_Digits.calls k (wrap64 (a0)) t210 _ A6.out).mono ?_); rintro e w17 ⟨rfl, hb⟩; refine ⟨_, rfl, ?_⟩; have n0_ := Aside0.mk (below_step (by repeat (first | (with_reducible first | exact HB.out | apply below_alloc | apply Go.Proofs.YtplmmblofhhikaaDoor.Ext.below_bytes | apply pw_below_drewN | apply below_drew1) | exact HB.out)) hb); clear HB; have HB := n0_; clear n0_; (try clear hb); (try clear hb2); (try clear hk); (try clear hi)) | ((with_reducible refine gate_callee (f := 71) rfl ?_); refine goesL_ (some 21) rfl rfl Tryd.func71 (by kernel_rfl) rfl #[.int .i64 (wrap64 ((ji9) + 1))] rfl (by (try simp only [List.map_toArray, List.map_cons, List.map_nil]); first | done | (simp only [hji9]; rfl) | rfl | (simp only [List.length_drop, List.length_take]; rfl) | (simp [Act.eval, *]; done)) ?_; (with_reducible refine (spec_Digits.calls k (wrap64 ((ji9) + 1)) t211 _ A10.out).mono ?_); rintro e w18 ⟨rfl, hb⟩; refine ⟨_, rfl, ?_⟩; have n0_ := Aside0.mk (below_step (by repeat (first | (with_reducible first | exact HB.out | apply below_alloc | apply Go.Proofs.YtplmmblofhhikaaDoor.Ext.below_bytes | apply pw_below_drewN | apply below_drew1) | exact HB.out)) hb); clear HB; have HB := n0_; clear n0_; (try clear hb); (try clear hb2); (try clear hk); (try clear hi)) | ((with_reducible refine gate_callee (f := 71) rfl ?_); refine goesL_ (some 29) rfl rfl Tryd.func71 (by kernel_rfl) rfl #[.int .i64 (wrap64 ((ji13) + 1))] rfl (by (try simp only [List.map_toArray, List.map_cons, List.map_nil]); first | done | (simp only [hji13]; rfl) | rfl | (simp only [List.length_drop, List.length_take]; rfl) | (simp [Act.eval, *]; done)) ?_; (with_reducible refine (spec_Digits.calls k (wrap64 ((ji13) + 1)) t212 _ A14.out).mono ?_); rintro e w19 ⟨rfl, hb⟩; refine ⟨_, rfl, ?_⟩; have n0_ := Aside0.mk (below_step (by repeat (first | (with_reducible first | exact HB.out | apply below_alloc | apply Go.Proofs.YtplmmblofhhikaaDoor.Ext.below_bytes | apply pw_below_drewN | apply below_drew1) | exact HB.out)) hb); clear HB; have HB := n0_; clear n0_; (try clear hb); (try clear hb2); (try clear hk); (try clear hi)))
                go_ret
                exact ⟨by first | rfl | (simp [errW_none, errW_some] <;> rfl) | (simp only [← hji9, ← hji13]; first | rfl | (simp [errW_none, errW_some] <;> rfl)) | (simp [*, errW_none, errW_some] <;> rfl), by repeat (first | (with_reducible first | exact HB.out | apply below_alloc | apply Go.Proofs.YtplmmblofhhikaaDoor.Ext.below_bytes | apply pw_below_drewN | apply below_drew1) | exact HB.out)⟩
              · rw [if_neg c16] at H
                exact absurd H (by simp)
            · rw [if_neg c15] at H
              exact absurd H (by simp)
          · rw [if_neg c12] at H
            exact absurd H (by simp)
        · rw [if_neg c11] at H
          exact absurd H (by simp)
      · rw [if_neg c8] at H
        exact absurd H (by simp)
    · rw [if_neg c7] at H
      exact absurd H (by simp)
  · replace c5 := Bool.eq_false_iff.mpr c5
    subst c5
    have H1 : ((spec_Digits.f k (wrap64 (a0))).bind fun t213 => (if 3 + t213.size ≤ 9223372036854775807 then (if 3 + t213.size + 1 ≤ 9223372036854775807 then ((spec_Digits.f k (wrap64 ((mx a1 (wrap64 (-a1))) + 1))).bind fun t214 => (if 3 + t213.size + 1 + t214.size ≤ 9223372036854775807 then (if 3 + t213.size + 1 + t214.size + 1 ≤ 9223372036854775807 then ((spec_Digits.f k (wrap64 ((mx a2 (wrap64 (-a2))) + 1))).bind fun t215 => (if 3 + t213.size + 1 + t214.size + 1 + t215.size ≤ 9223372036854775807 then (if 3 + t213.size + 1 + t214.size + 1 + t215.size + 1 ≤ 9223372036854775807 then (some (((((((⟨#[27, 91, 60]⟩ : ByteArray) ++ t213) ++ (⟨#[59]⟩ : ByteArray)) ++ t214) ++ (⟨#[59]⟩ : ByteArray)) ++ t215) ++ (⟨#[77]⟩ : ByteArray))) else (none)) else (none))) else (none)) else (none))) else (none)) else (none))) = some r := by rw [if_neg (show ¬ (false = true) by decide)] at H; exact H
    clear H
    have H := H1
    clear H1
    replace H := Option.bind_eq_some_iff.mp H
    obtain ⟨t213, A200, H⟩ := H
    replace H : (if 3 + t213.size ≤ 9223372036854775807 then (if 3 + t213.size + 1 ≤ 9223372036854775807 then ((spec_Digits.f k (wrap64 ((mx a1 (wrap64 (-a1))) + 1))).bind fun t214 => (if 3 + t213.size + 1 + t214.size ≤ 9223372036854775807 then (if 3 + t213.size + 1 + t214.size + 1 ≤ 9223372036854775807 then ((spec_Digits.f k (wrap64 ((mx a2 (wrap64 (-a2))) + 1))).bind fun t215 => (if 3 + t213.size + 1 + t214.size + 1 + t215.size ≤ 9223372036854775807 then (if 3 + t213.size + 1 + t214.size + 1 + t215.size + 1 ≤ 9223372036854775807 then (some (((((((⟨#[27, 91, 60]⟩ : ByteArray) ++ t213) ++ (⟨#[59]⟩ : ByteArray)) ++ t214) ++ (⟨#[59]⟩ : ByteArray)) ++ t215) ++ (⟨#[77]⟩ : ByteArray))) else (none)) else (none))) else (none)) else (none))) else (none)) else (none)) = some r := H
    have A20 := Aside0.mk A200
    clear A200
    by_cases c21 : 3 + t213.size ≤ 9223372036854775807
    · rw [if_pos c21] at H
      have c21b0 := eq_true c21
      have c21b1 : decide (3 + t213.size ≤ 9223372036854775807) = true := decide_eq_true c21
      try have c21b2 : (9223372036854775807 < 3 + t213.size) = False := eq_false (Nat.not_lt.2 c21)
      by_cases c22 : 3 + t213.size + 1 ≤ 9223372036854775807
      · rw [if_pos c22] at H
        have c22b0 := eq_true c22
        have c22b1 : decide (3 + t213.size + 1 ≤ 9223372036854775807) = true := decide_eq_true c22
        try have c22b2 : (9223372036854775807 < 3 + t213.size + 1) = False := eq_false (Nat.not_lt.2 c22)
        obtain ⟨ji23, hji23⟩ : ∃ j_ : Int, (mx a1 (wrap64 (-a1))) = j_ := ⟨_, rfl⟩
        replace H : ((spec_Digits.f k (wrap64 ((ji23) + 1))).bind fun t214 => (if 3 + t213.size + 1 + t214.size ≤ 9223372036854775807 then (if 3 + t213.size + 1 + t214.size + 1 ≤ 9223372036854775807 then ((spec_Digits.f k (wrap64 ((mx a2 (wrap64 (-a2))) + 1))).bind fun t215 => (if 3 + t213.size + 1 + t214.size + 1 + t215.size ≤ 9223372036854775807 then (if 3 + t213.size + 1 + t214.size + 1 + t215.size + 1 ≤ 9223372036854775807 then (some (((((((⟨#[27, 91, 60]⟩ : ByteArray) ++ t213) ++ (⟨#[59]⟩ : ByteArray)) ++ t214) ++ (⟨#[59]⟩ : ByteArray)) ++ t215) ++ (⟨#[77]⟩ : ByteArray))) else (none)) else (none))) else (none)) else (none))) = some r := by first | (rw [hji23] at H; exact H) | (simp only [hji23] at H ⊢; exact H)
        (try rw [hji23] at A20)
        have hji23_ : (if a1 < (wrap64 (-a1)) then (wrap64 (-a1)) else a1) = ji23 := hji23
        replace H := Option.bind_eq_some_iff.mp H
        obtain ⟨t214, A240, H⟩ := H
        replace H : (if 3 + t213.size + 1 + t214.size ≤ 9223372036854775807 then (if 3 + t213.size + 1 + t214.size + 1 ≤ 9223372036854775807 then ((spec_Digits.f k (wrap64 ((mx a2 (wrap64 (-a2))) + 1))).bind fun t215 => (if 3 + t213.size + 1 + t214.size + 1 + t215.size ≤ 9223372036854775807 then (if 3 + t213.size + 1 + t214.size + 1 + t215.size + 1 ≤ 9223372036854775807 then (some (((((((⟨#[27, 91, 60]⟩ : ByteArray) ++ t213) ++ (⟨#[59]⟩ : ByteArray)) ++ t214) ++ (⟨#[59]⟩ : ByteArray)) ++ t215) ++ (⟨#[77]⟩ : ByteArray))) else (none)) else (none))) else (none)) else (none)) = some r := H
        have A24 := Aside0.mk A240
        clear A240
        by_cases c25 : 3 + t213.size + 1 + t214.size ≤ 9223372036854775807
        · rw [if_pos c25] at H
          have c25b0 := eq_true c25
          have c25b1 : decide (3 + t213.size + 1 + t214.size ≤ 9223372036854775807) = true := decide_eq_true c25
          try have c25b2 : (9223372036854775807 < 3 + t213.size + 1 + t214.size) = False := eq_false (Nat.not_lt.2 c25)
          by_cases c26 : 3 + t213.size + 1 + t214.size + 1 ≤ 9223372036854775807
          · rw [if_pos c26] at H
            have c26b0 := eq_true c26
            have c26b1 : decide (3 + t213.size + 1 + t214.size + 1 ≤ 9223372036854775807) = true := decide_eq_true c26
            try have c26b2 : (9223372036854775807 < 3 + t213.size + 1 + t214.size + 1) = False := eq_false (Nat.not_lt.2 c26)
            obtain ⟨ji27, hji27⟩ : ∃ j_ : Int, (mx a2 (wrap64 (-a2))) = j_ := ⟨_, rfl⟩
            replace H : ((spec_Digits.f k (wrap64 ((ji27) + 1))).bind fun t215 => (if 3 + t213.size + 1 + t214.size + 1 + t215.size ≤ 9223372036854775807 then (if 3 + t213.size + 1 + t214.size + 1 + t215.size + 1 ≤ 9223372036854775807 then (some (((((((⟨#[27, 91, 60]⟩ : ByteArray) ++ t213) ++ (⟨#[59]⟩ : ByteArray)) ++ t214) ++ (⟨#[59]⟩ : ByteArray)) ++ t215) ++ (⟨#[77]⟩ : ByteArray))) else (none)) else (none))) = some r := by first | (rw [hji27] at H; exact H) | (simp only [hji27] at H ⊢; exact H)
            (try rw [hji27] at A20)
            (try rw [hji27] at A24)
            have hji27_ : (if a2 < (wrap64 (-a2)) then (wrap64 (-a2)) else a2) = ji27 := hji27
            replace H := Option.bind_eq_some_iff.mp H
            obtain ⟨t215, A280, H⟩ := H
            replace H : (if 3 + t213.size + 1 + t214.size + 1 + t215.size ≤ 9223372036854775807 then (if 3 + t213.size + 1 + t214.size + 1 + t215.size + 1 ≤ 9223372036854775807 then (some (((((((⟨#[27, 91, 60]⟩ : ByteArray) ++ t213) ++ (⟨#[59]⟩ : ByteArray)) ++ t214) ++ (⟨#[59]⟩ : ByteArray)) ++ t215) ++ (⟨#[77]⟩ : ByteArray))) else (none)) else (none)) = some r := H
            have A28 := Aside0.mk A280
            clear A280
            by_cases c29 : 3 + t213.size + 1 + t214.size + 1 + t215.size ≤ 9223372036854775807
            · rw [if_pos c29] at H
              have c29b0 := eq_true c29
              have c29b1 : decide (3 + t213.size + 1 + t214.size + 1 + t215.size ≤ 9223372036854775807) = true := decide_eq_true c29
              try have c29b2 : (9223372036854775807 < 3 + t213.size + 1 + t214.size + 1 + t215.size) = False := eq_false (Nat.not_lt.2 c29)
              by_cases c30 : 3 + t213.size + 1 + t214.size + 1 + t215.size + 1 ≤ 9223372036854775807
              · rw [if_pos c30] at H
                have c30b0 := eq_true c30
                have c30b1 : decide (3 + t213.size + 1 + t214.size + 1 + t215.size + 1 ≤ 9223372036854775807) = true := decide_eq_true c30
                try have c30b2 : (9223372036854775807 < 3 + t213.size + 1 + t214.size + 1 + t215.size + 1) = False := eq_false (Nat.not_lt.2 c30)
                obtain rfl := Option.some.inj H
                go_enter Tryd.func34, Tryd.ntmps34
                go_wp2_with (first | ((with_reducible refine gate_callee (f := 71) rfl ?_); refine goesL_ (some 13) rfl rfl Tryd.func71 (by kernel_rfl) rfl #[.int .i64 (wrap64 (a0))] rfl (by (try simp only [List.map_toArray, List.map_cons, List.map_nil]); first | done | rfl | (simp only [List.length_drop, List.length_take]; rfl) | (simp [Act.eval, *]; done)) ?_; (with_reducible refine (spec_Digits.calls k (wrap64 (a0)) t213 _ A20.out).mono ?_); rintro e w31 ⟨rfl, hb⟩; refine ⟨_, rfl, ?_⟩; have n0_ := Aside0.mk (below_step (by repeat (first | (with_reducible first | exact HB.out | apply below_alloc | apply Go.Proofs.YtplmmblofhhikaaDoor.Ext.below_bytes | apply pw_below_drewN | apply below_drew1) | exact HB.out)) hb); clear HB; have HB := n0_; clear n0_; (try clear hb); (try clear hb2); (try clear hk); (try clear hi)) | ((with_reducible refine gate_callee (f := 71) rfl ?_); refine goesL_ (some 21) rfl rfl Tryd.func71 (by kernel_rfl) rfl #[.int .i64 (wrap64 ((ji23) + 1))] rfl (by (try simp only [List.map_toArray, List.map_cons, List.map_nil]); first | done | (simp only [hji23]; rfl) | rfl | (simp only [List.length_drop, List.length_take]; rfl) | (simp [Act.eval, *]; done)) ?_; (with_reducible refine (spec_Digits.calls k (wrap64 ((ji23) + 1)) t214 _ A24.out).mono ?_); rintro e w32 ⟨rfl, hb⟩; refine ⟨_, rfl, ?_⟩; have n0_ := Aside0.mk (below_step (by repeat (first | (with_reducible first | exact HB.out | apply below_alloc | apply Go.Proofs.YtplmmblofhhikaaDoor.Ext.below_bytes | apply pw_below_drewN | apply below_drew1) | exact HB.out)) hb); clear HB; have HB := n0_; clear n0_; (try clear hb); (try clear hb2); (try clear hk); (try clear hi)) | ((with_reducible refine gate_callee (f := 71) rfl ?_); refine goesL_ (some 29) rfl rfl Tryd.func71 (by kernel_rfl) rfl #[.int .i64 (wrap64 ((ji27) + 1))] rfl (by (try simp only [List.map_toArray, List.map_cons, List.map_nil]); first | done | (simp only [hji27]; rfl) | rfl | (simp only [List.length_drop, List.length_take]; rfl) | (simp [Act.eval, *]; done)) ?_; (with_reducible refine (spec_Digits.calls k (wrap64 ((ji27) + 1)) t215 _ A28.out).mono ?_); rintro e w33 ⟨rfl, hb⟩; refine ⟨_, rfl, ?_⟩; have n0_ := Aside0.mk (below_step (by repeat (first | (with_reducible first | exact HB.out | apply below_alloc | apply Go.Proofs.YtplmmblofhhikaaDoor.Ext.below_bytes | apply pw_below_drewN | apply below_drew1) | exact HB.out)) hb); clear HB; have HB := n0_; clear n0_; (try clear hb); (try clear hb2); (try clear hk); (try clear hi)))
                go_ret
                exact ⟨by first | rfl | (simp [errW_none, errW_some] <;> rfl) | (simp only [← hji23, ← hji27]; first | rfl | (simp [errW_none, errW_some] <;> rfl)) | (simp [*, errW_none, errW_some] <;> rfl), by repeat (first | (with_reducible first | exact HB.out | apply below_alloc | apply Go.Proofs.YtplmmblofhhikaaDoor.Ext.below_bytes | apply pw_below_drewN | apply below_drew1) | exact HB.out)⟩
              · rw [if_neg c30] at H
                exact absurd H (by simp)
            · rw [if_neg c29] at H
              exact absurd H (by simp)
          · rw [if_neg c26] at H
            exact absurd H (by simp)
        · rw [if_neg c25] at H
          exact absurd H (by simp)
      · rw [if_neg c22] at H
        exact absurd H (by simp)
    · rw [if_neg c21] at H
      exact absurd H (by simp)

/-! ### laws_FnMouseSgr: function 13 -/
def laws_FnMouseSgr.j0 : Nat → Int → Int → Int → Bool → Bool → Option (Bool)
  | 0, _, _, _, _, _ => none
  | k + 1, x0, x1, x2, x3, x22 => if x22 = true then ((laws_makeAwake.f k).bind fun t216 => (some t216)) else ((laws_makeAwake.f k).bind fun t217 => (if t217 = true then ((impl_MouseSgr.f k x0 x1 x2 x3).bind fun t218 => ((spec_MadeMouse.f k x0 x1 x2 x3).bind fun t219 => (some (t218.toList == t219.toList)))) else (some false)))
def laws_FnMouseSgr.f (k : Nat) (a0 : Int) (a1 : Int) (a2 : Int) (a3 : Bool) : Option (Bool) := if a1 < (-9007199254740992) then (laws_FnMouseSgr.j0 k a0 a1 a2 a3 true) else (if a1 > 9007199254740992 then (laws_FnMouseSgr.j0 k a0 a1 a2 a3 true) else (if a2 < (-9007199254740992) then (laws_FnMouseSgr.j0 k a0 a1 a2 a3 true) else (laws_FnMouseSgr.j0 k a0 a1 a2 a3 (decide (a2 > 9007199254740992)))))
theorem laws_FnMouseSgr.mono_l : ∀ k, (∀ y0 y1 y2 y3 y4, LeO (laws_FnMouseSgr.j0 k y0 y1 y2 y3 y4) (laws_FnMouseSgr.j0 (k + 1) y0 y1 y2 y3 y4))
  | 0 => fun _ _ _ _ _ r h => by simp [laws_FnMouseSgr.j0] at h
  | k + 1 => by
    have ih0 := laws_FnMouseSgr.mono_l k
    · intro y0 y1 y2 y3 y4
      unfold laws_FnMouseSgr.j0
      repeat' first
      | (with_reducible exact ih0 _ _ _ _ _)
      | (with_reducible exact impl_MouseSgr.mono _ _ _ _ _)
      | (with_reducible exact laws_makeAwake.mono _)
      | (with_reducible exact spec_MadeMouse.mono _ _ _ _ _)
      | (with_reducible exact LeO.refl _)
      | (with_reducible exact LeO.none _)
      | (with_reducible refine LeO.ite ?_ ?_)
      | (with_reducible refine LeO.bind ?_ (fun _ => ?_))
      | exact ih0 _ _ _ _ _
      | exact impl_MouseSgr.mono _ _ _ _ _
      | exact laws_makeAwake.mono _
      | exact spec_MadeMouse.mono _ _ _ _ _
      | exact LeO.none _
      | refine LeO.ite ?_ ?_
      | refine LeO.bind ?_ (fun _ => ?_)
theorem laws_FnMouseSgr.mono : ∀ a0 a1 a2 a3 k, LeO (laws_FnMouseSgr.f k a0 a1 a2 a3) (laws_FnMouseSgr.f (k + 1) a0 a1 a2 a3) := by
  intro a0 a1 a2 a3 k
  have ih0 := laws_FnMouseSgr.mono_l k
  unfold laws_FnMouseSgr.f
  repeat' first
      | (with_reducible exact ih0 _ _ _ _ _)
      | (with_reducible exact impl_MouseSgr.mono _ _ _ _ _)
      | (with_reducible exact laws_makeAwake.mono _)
      | (with_reducible exact spec_MadeMouse.mono _ _ _ _ _)
      | (with_reducible exact LeO.refl _)
      | (with_reducible exact LeO.none _)
      | (with_reducible refine LeO.ite ?_ ?_)
      | (with_reducible refine LeO.bind ?_ (fun _ => ?_))
      | exact ih0 _ _ _ _ _
      | exact impl_MouseSgr.mono _ _ _ _ _
      | exact laws_makeAwake.mono _
      | exact spec_MadeMouse.mono _ _ _ _ _
      | exact LeO.none _
      | refine LeO.ite ?_ ?_
      | refine LeO.bind ?_ (fun _ => ?_)
set_option maxHeartbeats 8000000 in
set_option maxRecDepth 100000 in
theorem laws_FnMouseSgr.calls (k : Nat) (a0 : Int) (a1 : Int) (a2 : Int) (a3 : Bool) (r : Bool) (w : World) (hLD : Laid w) (h : laws_FnMouseSgr.f k a0 a1 a2 a3 = some r) :
    Calls Tryd.prog 13 #[.int .u8 a0, .int .i64 a1, .int .i64 a2, .bool a3] w fun e w' => e = .returned (.bool r) ∧ Below w.heap.size w w' := by
  have HLD := Aside0.mk hLD
  clear hLD
  have HB := Aside0.mk (Below.refl w.heap.size w)
  have H : (if a1 < (-9007199254740992) then (laws_FnMouseSgr.j0 k a0 a1 a2 a3 true) else (if a1 > 9007199254740992 then (laws_FnMouseSgr.j0 k a0 a1 a2 a3 true) else (if a2 < (-9007199254740992) then (laws_FnMouseSgr.j0 k a0 a1 a2 a3 true) else (laws_FnMouseSgr.j0 k a0 a1 a2 a3 (decide (a2 > 9007199254740992)))))) = some r := h
  clear h
  have HC5 := Aside0.mk H
  clear H
  go_enter Tryd.func13, Tryd.ntmps13
  go_upto_region 1 with (fail)
  go_cut [22] (fun v22 wc => ∃ (kq : Nat) (x22_4 : Bool), v22 = .bool x22_4 ∧ Aside0 (laws_FnMouseSgr.j0 kq a0 a1 a2 a3 x22_4 = some r) ∧ Aside0 (kq ≤ k) ∧ Aside0 (Below w.heap.size w wc))
  case first =>
    have H := HC5.out
    clear HC5
    by_cases c6 : a1 < (-9007199254740992)
    · rw [if_pos c6] at H
      have c6b0 : decide (a1 < (-9007199254740992)) = true := decide_eq_true c6
      clear c6
      (first | rw [c6b0] | (simp only [i64_w, i32_w]; rw [c6b0]) | skip)
      have H' := Aside0.mk H
      clear H
      go_wp2
      go_meet
      case rel => exact ⟨_, (true), (by first | rfl | (simp; done) | (simp [*]; done)), H', ⟨by first | omega | exact Nat.le_refl _⟩, ⟨by repeat (first | (with_reducible first | exact HB.out | apply below_alloc | apply Go.Proofs.YtplmmblofhhikaaDoor.Ext.below_bytes | apply pw_below_drewN | apply below_drew1) | exact HB.out)⟩⟩
    · rw [if_neg c6] at H
      have c6b0 : decide (a1 < (-9007199254740992)) = false := decide_eq_false c6
      clear c6
      (first | rw [c6b0] | (simp only [i64_w, i32_w]; rw [c6b0]) | skip)
      by_cases c7 : a1 > 9007199254740992
      · rw [if_pos c7] at H
        have c7b0 : decide (9007199254740992 < a1) = true := decide_eq_true c7
        clear c7
        have H' := Aside0.mk H
        clear H
        go_wp2
        go_meet
        case rel => exact ⟨_, (true), (by first | rfl | (simp; done) | (simp [*]; done)), H', ⟨by first | omega | exact Nat.le_refl _⟩, ⟨by repeat (first | (with_reducible first | exact HB.out | apply below_alloc | apply Go.Proofs.YtplmmblofhhikaaDoor.Ext.below_bytes | apply pw_below_drewN | apply below_drew1) | exact HB.out)⟩⟩
      · rw [if_neg c7] at H
        have c7b0 : decide (9007199254740992 < a1) = false := decide_eq_false c7
        clear c7
        by_cases c8 : a2 < (-9007199254740992)
        · rw [if_pos c8] at H
          have c8b0 : decide (a2 < (-9007199254740992)) = true := decide_eq_true c8
          clear c8
          have H' := Aside0.mk H
          clear H
          go_wp2
          go_meet
          case rel => exact ⟨_, (true), (by first | rfl | (simp; done) | (simp [*]; done)), H', ⟨by first | omega | exact Nat.le_refl _⟩, ⟨by repeat (first | (with_reducible first | exact HB.out | apply below_alloc | apply Go.Proofs.YtplmmblofhhikaaDoor.Ext.below_bytes | apply pw_below_drewN | apply below_drew1) | exact HB.out)⟩⟩
        · rw [if_neg c8] at H
          have c8b0 : decide (a2 < (-9007199254740992)) = false := decide_eq_false c8
          clear c8
          have H' := Aside0.mk H
          clear H
          go_wp2
          go_meet
          case rel => exact ⟨_, (decide (a2 > 9007199254740992)), (by first | rfl | (simp; done) | (simp [*]; done)), H', ⟨by first | omega | exact Nat.le_refl _⟩, ⟨by repeat (first | (with_reducible first | exact HB.out | apply below_alloc | apply Go.Proofs.YtplmmblofhhikaaDoor.Ext.below_bytes | apply pw_below_drewN | apply below_drew1) | exact HB.out)⟩⟩
  case rest =>
    clear HC5
    try clear c1
    try clear p2
    try clear c6
    try clear c6b0
    try clear c7
    try clear c7b0
    try clear c8
    try clear c8b0
    obtain ⟨kq, x22_4, rfl, HA, HJ4, HB⟩ := hcut
    cases kq with
    | zero => exact absurd HA.out (by simp [laws_FnMouseSgr.j0])
    | succ kj4 =>
      have H := HA.out
      clear HA
      simp only [laws_FnMouseSgr.j0] at H
      by_cases c9 : x22_4 = true
      · subst c9
        have H1 : ((laws_makeAwake.f kj4).bind fun t216 => (some t216)) = some r := by rw [if_pos rfl] at H; exact H
        clear H
        have H := H1
        clear H1
        replace H := Option.bind_eq_some_iff.mp H
        obtain ⟨t216, A100, H⟩ := H
        replace H : (some t216) = some r := H
        have A10 := Aside0.mk A100
        clear A100
        obtain rfl := Option.some.inj H
        go_wp2_with (first | ((with_reducible refine gate_callee (f := 15) rfl ?_); refine goesL_ (some 23) rfl rfl Tryd.func15 (by kernel_rfl) rfl #[] rfl (by (try simp only [List.map_toArray, List.map_cons, List.map_nil]); first | done | rfl | (simp only [List.length_drop, List.length_take]; rfl) | (simp [Act.eval, *]; done)) ?_; (with_reducible refine (laws_makeAwake.calls kj4  t216 _ ?side1 A10.out).mono ?_); (case side1 => exact HLD.out.below (by repeat (first | (with_reducible first | exact HB.out | apply below_alloc | apply Go.Proofs.YtplmmblofhhikaaDoor.Ext.below_bytes | apply pw_below_drewN | apply below_drew1) | exact HB.out))); rintro e w11 ⟨rfl, hb⟩; refine ⟨_, rfl, ?_⟩; have n0_ := Aside0.mk (below_step (by repeat (first | (with_reducible first | exact HB.out | apply below_alloc | apply Go.Proofs.YtplmmblofhhikaaDoor.Ext.below_bytes | apply pw_below_drewN | apply below_drew1) | exact HB.out)) hb); clear HB; have HB := n0_; clear n0_; (try clear hb); (try clear hb2); (try clear hk); (try clear hi)))
        go_ret
        exact ⟨by first | rfl | (simp [errW_none, errW_some] <;> rfl) | (simp [*, errW_none, errW_some] <;> rfl), by repeat (first | (with_reducible first | exact HB.out | apply below_alloc | apply Go.Proofs.YtplmmblofhhikaaDoor.Ext.below_bytes | apply pw_below_drewN | apply below_drew1) | exact HB.out)⟩
      · replace c9 := Bool.eq_false_iff.mpr c9
        subst c9
        have H1 : ((laws_makeAwake.f kj4).bind fun t217 => (if t217 = true then ((impl_MouseSgr.f kj4 a0 a1 a2 a3).bind fun t218 => ((spec_MadeMouse.f kj4 a0 a1 a2 a3).bind fun t219 => (some (t218.toList == t219.toList)))) else (some false))) = some r := by rw [if_neg (show ¬ (false = true) by decide)] at H; exact H
        clear H
        have H := H1
        clear H1
        replace H := Option.bind_eq_some_iff.mp H
        obtain ⟨t217, A120, H⟩ := H
        replace H : (if t217 = true then ((impl_MouseSgr.f kj4 a0 a1 a2 a3).bind fun t218 => ((spec_MadeMouse.f kj4 a0 a1 a2 a3).bind fun t219 => (some (t218.toList == t219.toList)))) else (some false)) = some r := H
        have A12 := Aside0.mk A120
        clear A120
        by_cases c13 : t217 = true
        · subst c13
          have H1 : ((impl_MouseSgr.f kj4 a0 a1 a2 a3).bind fun t218 => ((spec_MadeMouse.f kj4 a0 a1 a2 a3).bind fun t219 => (some (t218.toList == t219.toList)))) = some r := by rw [if_pos rfl] at H; exact H
          clear H
          have H := H1
          clear H1
          replace H := Option.bind_eq_some_iff.mp H
          obtain ⟨t218, A140, H⟩ := H
          replace H : ((spec_MadeMouse.f kj4 a0 a1 a2 a3).bind fun t219 => (some (t218.toList == t219.toList))) = some r := H
          have A14 := Aside0.mk A140
          clear A140
          replace H := Option.bind_eq_some_iff.mp H
          obtain ⟨t219, A150, H⟩ := H
          replace H : (some (t218.toList == t219.toList)) = some r := H
          have A15 := Aside0.mk A150
          clear A150
          obtain rfl := Option.some.inj H
          go_wp2_with (first | ((with_reducible refine gate_callee (f := 15) rfl ?_); refine goesL_ (some 24) rfl rfl Tryd.func15 (by kernel_rfl) rfl #[] rfl (by (try simp only [List.map_toArray, List.map_cons, List.map_nil]); first | done | rfl | (simp only [List.length_drop, List.length_take]; rfl) | (simp [Act.eval, *]; done)) ?_; (with_reducible refine (laws_makeAwake.calls kj4  true _ ?side1 A12.out).mono ?_); (case side1 => exact HLD.out.below (by repeat (first | (with_reducible first | exact HB.out | apply below_alloc | apply Go.Proofs.YtplmmblofhhikaaDoor.Ext.below_bytes | apply pw_below_drewN | apply below_drew1) | exact HB.out))); rintro e w16 ⟨rfl, hb⟩; refine ⟨_, rfl, ?_⟩; have n0_ := Aside0.mk (below_step (by repeat (first | (with_reducible first | exact HB.out | apply below_alloc | apply Go.Proofs.YtplmmblofhhikaaDoor.Ext.below_bytes | apply pw_below_drewN | apply below_drew1) | exact HB.out)) hb); clear HB; have HB := n0_; clear n0_; (try clear hb); (try clear hb2); (try clear hk); (try clear hi)) | (go_at_call 33; (with_reducible refine (impl_MouseSgr.calls kj4 a0 a1 a2 a3 t218 _ ?side1 A14.out).mono ?_); (case side1 => exact HLD.out.below (by repeat (first | (with_reducible first | exact HB.out | apply below_alloc | apply Go.Proofs.YtplmmblofhhikaaDoor.Ext.below_bytes | apply pw_below_drewN | apply below_drew1) | exact HB.out))); rintro e w17 ⟨rfl, hb⟩; have n0_ := Aside0.mk (below_step (by repeat (first | (with_reducible first | exact HB.out | apply below_alloc | apply Go.Proofs.YtplmmblofhhikaaDoor.Ext.below_bytes | apply pw_below_drewN | apply below_drew1) | exact HB.out)) hb); clear HB; have HB := n0_; clear n0_; (try clear hb); (try clear hb2); (try clear hk); (try clear hi)) | (go_at_call 34; (with_reducible refine (spec_MadeMouse.calls kj4 a0 a1 a2 a3 t219 _ A15.out).mono ?_); rintro e w18 ⟨rfl, hb⟩; have n0_ := Aside0.mk (below_step (by repeat (first | (with_reducible first | exact HB.out | apply below_alloc | apply Go.Proofs.YtplmmblofhhikaaDoor.Ext.below_bytes | apply pw_below_drewN | apply below_drew1) | exact HB.out)) hb); clear HB; have HB := n0_; clear n0_; (try clear hb); (try clear hb2); (try clear hk); (try clear hi)))
          go_ret
          exact ⟨by first | rfl | (simp [errW_none, errW_some] <;> rfl) | (simp [*, errW_none, errW_some] <;> rfl), by repeat (first | (with_reducible first | exact HB.out | apply below_alloc | apply Go.Proofs.YtplmmblofhhikaaDoor.Ext.below_bytes | apply pw_below_drewN | apply below_drew1) | exact HB.out)⟩
        · replace c13 := Bool.eq_false_iff.mpr c13
          subst c13
          have H1 : (some false) = some r := by rw [if_neg (show ¬ (false = true) by decide)] at H; exact H
          clear H
          have H := H1
          clear H1
          obtain rfl := Option.some.inj H
          go_wp2_with (first | ((with_reducible refine gate_callee (f := 15) rfl ?_); refine goesL_ (some 24) rfl rfl Tryd.func15 (by kernel_rfl) rfl #[] rfl (by (try simp only [List.map_toArray, List.map_cons, List.map_nil]); first | done | rfl | (simp only [List.length_drop, List.length_take]; rfl) | (simp [Act.eval, *]; done)) ?_; (with_reducible refine (laws_makeAwake.calls kj4  false _ ?side1 A12.out).mono ?_); (case side1 => exact HLD.out.below (by repeat (first | (with_reducible first | exact HB.out | apply below_alloc | apply Go.Proofs.YtplmmblofhhikaaDoor.Ext.below_bytes | apply pw_below_drewN | apply below_drew1) | exact HB.out))); rintro e w19 ⟨rfl, hb⟩; refine ⟨_, rfl, ?_⟩; have n0_ := Aside0.mk (below_step (by repeat (first | (with_reducible first | exact HB.out | apply below_alloc | apply Go.Proofs.YtplmmblofhhikaaDoor.Ext.below_bytes | apply pw_below_drewN | apply below_drew1) | exact HB.out)) hb); clear HB; have HB := n0_; clear n0_; (try clear hb); (try clear hb2); (try clear hk); (try clear hi)))
          go_ret
          exact ⟨by first | rfl | (simp [errW_none, errW_some] <;> rfl) | (simp [*, errW_none, errW_some] <;> rfl), by repeat (first | (with_reducible first | exact HB.out | apply below_alloc | apply Go.Proofs.YtplmmblofhhikaaDoor.Ext.below_bytes | apply pw_below_drewN | apply below_drew1) | exact HB.out)⟩

/-- THE ONE PURE STATEMENT of laws_FnMouseSgr: yours. -/
def laws_FnMouseSgr.Pure : Prop := ∀ (a0 : Int) (a1 : Int) (a2 : Int) (a3 : Bool), (Lit.int .u8 a0).wf = true → (Lit.int .i64 a1).wf = true → (Lit.int .i64 a2).wf = true → ∃ k, laws_FnMouseSgr.f k a0 a1 a2 a3 = some true
theorem laws_FnMouseSgr.walk (P : laws_FnMouseSgr.Pure) (a0 : Int) (a1 : Int) (a2 : Int) (a3 : Bool) (w : World) (hLD : Laid w) (w0 : (Lit.int .u8 a0).wf = true) (w1 : (Lit.int .i64 a1).wf = true) (w2 : (Lit.int .i64 a2).wf = true) :
    Calls Tryd.prog 13 #[.int .u8 a0, .int .i64 a1, .int .i64 a2, .bool a3] w fun e w' => e = .returned (.bool true) ∧ Below w.heap.size w w' := by
  obtain ⟨k, h⟩ := P a0 a1 a2 a3 w0 w1 w2
  refine (laws_FnMouseSgr.calls k a0 a1 a2 a3 true w hLD h).mono ?_
  rintro e w' ⟨rfl, hd⟩
  exact ⟨rfl, hd⟩

/-! ### xansi_SelectCharacterSet: function 107 -/
def xansi_SelectCharacterSet.f (a0 : Int) (a1 : Int) : Option (ByteArray) := if 1 + (Utf8.encode a0).size ≤ 9223372036854775807 then (if 1 + (Utf8.encode a0).size + (Utf8.encode a1).size ≤ 9223372036854775807 then (some (((⟨#[27]⟩ : ByteArray) ++ (Utf8.encode a0)) ++ (Utf8.encode a1))) else (none)) else (none)
set_option maxHeartbeats 8000000 in
set_option maxRecDepth 100000 in
theorem xansi_SelectCharacterSet.calls (a0 : Int) (a1 : Int) (r : ByteArray) (w : World) (h : xansi_SelectCharacterSet.f a0 a1 = some r) :
    Calls Tryd.prog 107 #[.int .u8 a0, .int .u8 a1] w fun e w' => e = .returned (.string r) ∧ Drawn0 w w' := by
  have H : (if 1 + (Utf8.encode a0).size ≤ 9223372036854775807 then (if 1 + (Utf8.encode a0).size + (Utf8.encode a1).size ≤ 9223372036854775807 then (some (((⟨#[27]⟩ : ByteArray) ++ (Utf8.encode a0)) ++ (Utf8.encode a1))) else (none)) else (none)) = some r := h
  clear h
  by_cases c3 : 1 + (Utf8.encode a0).size ≤ 9223372036854775807
  · rw [if_pos c3] at H
    have c3b0 := eq_true c3
    have c3b1 : decide (1 + (Utf8.encode a0).size ≤ 9223372036854775807) = true := decide_eq_true c3
    try have c3b2 : (9223372036854775807 < 1 + (Utf8.encode a0).size) = False := eq_false (Nat.not_lt.2 c3)
    by_cases c4 : 1 + (Utf8.encode a0).size + (Utf8.encode a1).size ≤ 9223372036854775807
    · rw [if_pos c4] at H
      have c4b0 := eq_true c4
      have c4b1 : decide (1 + (Utf8.encode a0).size + (Utf8.encode a1).size ≤ 9223372036854775807) = true := decide_eq_true c4
      try have c4b2 : (9223372036854775807 < 1 + (Utf8.encode a0).size + (Utf8.encode a1).size) = False := eq_false (Nat.not_lt.2 c4)
      obtain rfl := Option.some.inj H
      go_enter Tryd.func107, Tryd.ntmps107
      go_wp2
      go_ret
      exact ⟨by first | rfl | (simp; done) | (simp [*]; done), by repeat (first | exact Drawn0.refl _ | apply Drawn0.step)⟩
    · rw [if_neg c4] at H
      exact absurd H (by simp)
  · rw [if_neg c3] at H
    exact absurd H (by simp)

/-! ### impl_Charset: function 35 -/
def impl_Charset.f (a0 : Int) (a1 : Int) : Option (ByteArray) := (xansi_SelectCharacterSet.f a0 a1).bind fun t220 => (some t220)
set_option maxHeartbeats 8000000 in
set_option maxRecDepth 100000 in
theorem impl_Charset.calls (a0 : Int) (a1 : Int) (r : ByteArray) (w : World) (h : impl_Charset.f a0 a1 = some r) :
    Calls Tryd.prog 35 #[.int .u8 a0, .int .u8 a1] w fun e w' => e = .returned (.string r) ∧ Drawn0 w w' := by
  have H : ((xansi_SelectCharacterSet.f a0 a1).bind fun t220 => (some t220)) = some r := h
  clear h
  replace H := Option.bind_eq_some_iff.mp H
  obtain ⟨t220, A30, H⟩ := H
  replace H : (some t220) = some r := H
  have A3 := Aside0.mk A30
  clear A30
  obtain rfl := Option.some.inj H
  go_enter Tryd.func35, Tryd.ntmps35
  go_wp2_with (first | ((with_reducible refine gate_callee (f := 107) rfl ?_); refine goesL_ (some 7) rfl rfl Tryd.func107 (by kernel_rfl) rfl #[.int .u8 a0, .int .u8 a1] rfl (by (try simp only [List.map_toArray, List.map_cons, List.map_nil]); first | done | rfl | (simp only [List.length_drop, List.length_take]; rfl) | (simp [Act.eval, *]; done)) ?_; (with_reducible refine (xansi_SelectCharacterSet.calls a0 a1 t220 _ A3.out).mono ?_); rintro e w' ⟨rfl, ⟨nd, rfl⟩⟩; refine ⟨_, rfl, ?_⟩))
  go_ret
  exact ⟨by first | rfl | (simp; done) | (simp [*]; done), by repeat (first | exact Drawn0.refl _ | apply Drawn0.step)⟩

/-! ### spec_madeCode: function 108 -/
def spec_madeCode.f (a0 : Int) : Option (ByteArray) := if a0 < 128 then (some (strOfNums (([a0] : List Int)))) else (some (strOfNums (([Go.bits .or .u8 192 (a0 / 64), Go.bits .or .u8 128 (Go.bits .and .u8 a0 63)] : List Int))))
set_option maxHeartbeats 8000000 in
set_option maxRecDepth 100000 in
theorem spec_madeCode.calls (a0 : Int) (r : ByteArray) (w : World) (h : spec_madeCode.f a0 = some r) :
    Calls Tryd.prog 108 #[.int .u8 a0] w fun e w' => e = .returned (.string r) ∧ Below w.heap.size w w' := by
  have HB := Aside0.mk (Below.refl w.heap.size w)
  have H : (if a0 < 128 then (some (strOfNums (([a0] : List Int)))) else (some (strOfNums (([Go.bits .or .u8 192 (a0 / 64), Go.bits .or .u8 128 (Go.bits .and .u8 a0 63)] : List Int))))) = some r := h
  clear h
  by_cases c2 : a0 < 128
  · rw [if_pos c2] at H
    have c2b0 : decide (a0 < 128) = true := decide_eq_true c2
    clear c2
    obtain ⟨y221, hy221⟩ : ∃ y_ : List Int, y_ = (([a0] : List Int)) := ⟨_, rfl⟩
    replace H : (some (strOfNums y221)) = some r := by first | (rw [hy221]; with_reducible exact H) | (have H2_ := (Option.bind_some _ _).symm.trans H; rw [hy221]; with_reducible exact H2_) | (have H2_ := (Option.bind_some _ _).symm.trans H; with_reducible exact H2_) | with_reducible exact H | (rw [hy221]; exact H) | exact H
    have Ny221 := Aside0.mk hy221
    clear hy221
    obtain rfl := Option.some.inj H
    go_enter Tryd.func108, Tryd.ntmps108
    go_wp2_with (first | ((with_reducible refine gate_dst (N := 6) rfl ?_); refine Kd.R_lit (Kd.int .u8) _ 5 ?hg (N := 6) ?hd (xs := ([a0] : List Int)) (inner := [.int .u8 a0]) (ok := fun _ => True) (okp := fun _ => True) ?hr ?hp (fun _ hk => hk) trivial (Below.refl _ _) (Nat.le_refl _) (by simp) ?_; (case hd => rfl); (case hg => rfl); (case hr => first | (go_simp; done) | (go_simp; rfl)); (case hp => exact (Reps.one (show Kd.M (Kd.int .u8) _ _ _ a0 [.int .u8 a0] from rfl) (Reps.none _ _))); intro v222 w3 ho4 hb hg_ hnew_; clear hg_ hnew_; (first | rw [← Ny221.out] at ho4 | (simp only [Int.reduceToNat] at ho4; rw [← Ny221.out] at ho4)); have n0_ := Aside0.mk (Kd.R_lower ho4 (below_size (by repeat (first | (with_reducible first | exact HB.out | apply below_alloc | apply Go.Proofs.YtplmmblofhhikaaDoor.Ext.below_bytes | apply pw_below_drewN | apply below_drew1) | exact HB.out)))); have n1_ := Aside0.mk (below_step (by repeat (first | (with_reducible first | exact HB.out | apply below_alloc | apply Go.Proofs.YtplmmblofhhikaaDoor.Ext.below_bytes | apply pw_below_drewN | apply below_drew1) | exact HB.out)) hb); clear HB; have HO223 := n0_; have HB := n1_; clear n0_ n1_; clear hb ho4; have hcv5 := own_string (P := Tryd.prog) Tryd.underlying30 Tryd.underlying5 Tryd.underlying9 (Kd.own_of_R HO223.out)))
    go_ret
    exact ⟨by first | rfl | (simp [errW_none, errW_some] <;> rfl) | (simp [*, errW_none, errW_some] <;> rfl), by repeat (first | (with_reducible first | exact HB.out | apply below_alloc | apply Go.Proofs.YtplmmblofhhikaaDoor.Ext.below_bytes | apply pw_below_drewN | apply below_drew1) | exact HB.out)⟩
  · rw [if_neg c2] at H
    have c2b0 : decide (a0 < 128) = false := decide_eq_false c2
    clear c2
    obtain ⟨y224, hy224⟩ : ∃ y_ : List Int, y_ = (([Go.bits .or .u8 192 (a0 / 64), Go.bits .or .u8 128 (Go.bits .and .u8 a0 63)] : List Int)) := ⟨_, rfl⟩
    replace H : (some (strOfNums y224)) = some r := by first | (rw [hy224]; with_reducible exact H) | (have H2_ := (Option.bind_some _ _).symm.trans H; rw [hy224]; with_reducible exact H2_) | (have H2_ := (Option.bind_some _ _).symm.trans H; with_reducible exact H2_) | with_reducible exact H | (rw [hy224]; exact H) | exact H
    have Ny224 := Aside0.mk hy224
    clear hy224
    obtain rfl := Option.some.inj H
    go_enter Tryd.func108, Tryd.ntmps108
    go_wp2_with (first | ((with_reducible refine gate_dst (N := 14) rfl ?_); refine Kd.R_lit (Kd.int .u8) _ 5 ?hg (N := 14) ?hd (xs := ([Go.bits .or .u8 192 (a0 / 64), Go.bits .or .u8 128 (Go.bits .and .u8 a0 63)] : List Int)) (inner := [.int .u8 (Go.bits .or .u8 192 (a0 / 64)), .int .u8 (Go.bits .or .u8 128 (Go.bits .and .u8 a0 63))]) (ok := fun _ => True) (okp := fun _ => True) ?hr ?hp (fun _ hk => hk) trivial (Below.refl _ _) (Nat.le_refl _) (by simp) ?_; (case hd => rfl); (case hg => rfl); (case hr => first | (go_simp; done) | (go_simp; rfl)); (case hp => exact (Reps.one (show Kd.M (Kd.int .u8) _ _ _ (Go.bits .or .u8 192 (a0 / 64)) [.int .u8 (Go.bits .or .u8 192 (a0 / 64))] from rfl) (Reps.one (show Kd.M (Kd.int .u8) _ _ _ (Go.bits .or .u8 128 (Go.bits .and .u8 a0 63)) [.int .u8 (Go.bits .or .u8 128 (Go.bits .and .u8 a0 63))] from rfl) (Reps.none _ _)))); intro v225 w6 ho7 hb hg_ hnew_; clear hg_ hnew_; (first | rw [← Ny224.out] at ho7 | (simp only [Int.reduceToNat] at ho7; rw [← Ny224.out] at ho7)); have n0_ := Aside0.mk (Kd.R_lower ho7 (below_size (by repeat (first | (with_reducible first | exact HB.out | apply below_alloc | apply Go.Proofs.YtplmmblofhhikaaDoor.Ext.below_bytes | apply pw_below_drewN | apply below_drew1) | exact HB.out)))); have n1_ := Aside0.mk (below_step (by repeat (first | (with_reducible first | exact HB.out | apply below_alloc | apply Go.Proofs.YtplmmblofhhikaaDoor.Ext.below_bytes | apply pw_below_drewN | apply below_drew1) | exact HB.out)) hb); clear HB; have HO226 := n0_; have HB := n1_; clear n0_ n1_; clear hb ho7; have hcv8 := own_string (P := Tryd.prog) Tryd.underlying30 Tryd.underlying5 Tryd.underlying9 (Kd.own_of_R HO226.out)))
    go_ret
    exact ⟨by first | rfl | (simp [errW_none, errW_some] <;> rfl) | (simp [*, errW_none, errW_some] <;> rfl), by repeat (first | (with_reducible first | exact HB.out | apply below_alloc | apply Go.Proofs.YtplmmblofhhikaaDoor.Ext.below_bytes | apply pw_below_drewN | apply below_drew1) | exact HB.out)⟩

/-! ### spec_MadeCharset: function 36 -/
def spec_MadeCharset.f (a0 : Int) (a1 : Int) : Option (ByteArray) := (spec_madeCode.f a0).bind fun t227 => (if 1 + t227.size ≤ 9223372036854775807 then ((spec_madeCode.f a1).bind fun t228 => (if 1 + t227.size + t228.size ≤ 9223372036854775807 then (some (((⟨#[27]⟩ : ByteArray) ++ t227) ++ t228)) else (none))) else (none))
set_option maxHeartbeats 8000000 in
set_option maxRecDepth 100000 in
theorem spec_MadeCharset.calls (a0 : Int) (a1 : Int) (r : ByteArray) (w : World) (h : spec_MadeCharset.f a0 a1 = some r) :
    Calls Tryd.prog 36 #[.int .u8 a0, .int .u8 a1] w fun e w' => e = .returned (.string r) ∧ Below w.heap.size w w' := by
  have HB := Aside0.mk (Below.refl w.heap.size w)
  have H : ((spec_madeCode.f a0).bind fun t227 => (if 1 + t227.size ≤ 9223372036854775807 then ((spec_madeCode.f a1).bind fun t228 => (if 1 + t227.size + t228.size ≤ 9223372036854775807 then (some (((⟨#[27]⟩ : ByteArray) ++ t227) ++ t228)) else (none))) else (none))) = some r := h
  clear h
  replace H := Option.bind_eq_some_iff.mp H
  obtain ⟨t227, A30, H⟩ := H
  replace H : (if 1 + t227.size ≤ 9223372036854775807 then ((spec_madeCode.f a1).bind fun t228 => (if 1 + t227.size + t228.size ≤ 9223372036854775807 then (some (((⟨#[27]⟩ : ByteArray) ++ t227) ++ t228)) else (none))) else (none)) = some r := H
  have A3 := Aside0.mk A30
  clear A30
  by_cases c4 : 1 + t227.size ≤ 9223372036854775807
  · rw [if_pos c4] at H
    have c4b0 := eq_true c4
    have c4b1 : decide (1 + t227.size ≤ 9223372036854775807) = true := decide_eq_true c4
    try have c4b2 : (9223372036854775807 < 1 + t227.size) = False := eq_false (Nat.not_lt.2 c4)
    replace H := Option.bind_eq_some_iff.mp H
    obtain ⟨t228, A50, H⟩ := H
    replace H : (if 1 + t227.size + t228.size ≤ 9223372036854775807 then (some (((⟨#[27]⟩ : ByteArray) ++ t227) ++ t228)) else (none)) = some r := H
    have A5 := Aside0.mk A50
    clear A50
    by_cases c6 : 1 + t227.size + t228.size ≤ 9223372036854775807
    · rw [if_pos c6] at H
      have c6b0 := eq_true c6
      have c6b1 : decide (1 + t227.size + t228.size ≤ 9223372036854775807) = true := decide_eq_true c6
      try have c6b2 : (9223372036854775807 < 1 + t227.size + t228.size) = False := eq_false (Nat.not_lt.2 c6)
      obtain rfl := Option.some.inj H
      go_enter Tryd.func36, Tryd.ntmps36
      go_wp2_with (first | ((with_reducible refine gate_callee (f := 108) rfl ?_); refine goesL_ (some 6) rfl rfl Tryd.func108 (by kernel_rfl) rfl #[.int .u8 a0] rfl (by (try simp only [List.map_toArray, List.map_cons, List.map_nil]); first | done | rfl | (simp only [List.length_drop, List.length_take]; rfl) | (simp [Act.eval, *]; done)) ?_; (with_reducible refine (spec_madeCode.calls a0 t227 _ A3.out).mono ?_); rintro e w7 ⟨rfl, hb⟩; refine ⟨_, rfl, ?_⟩; have n0_ := Aside0.mk (below_step (by repeat (first | (with_reducible first | exact HB.out | apply below_alloc | apply Go.Proofs.YtplmmblofhhikaaDoor.Ext.below_bytes | apply pw_below_drewN | apply below_drew1) | exact HB.out)) hb); clear HB; have HB := n0_; clear n0_; (try clear hb); (try clear hb2); (try clear hk); (try clear hi)) | ((with_reducible refine gate_callee (f := 108) rfl ?_); refine goesL_ (some 9) rfl rfl Tryd.func108 (by kernel_rfl) rfl #[.int .u8 a1] rfl (by (try simp only [List.map_toArray, List.map_cons, List.map_nil]); first | done | rfl | (simp only [List.length_drop, List.length_take]; rfl) | (simp [Act.eval, *]; done)) ?_; (with_reducible refine (spec_madeCode.calls a1 t228 _ A5.out).mono ?_); rintro e w8 ⟨rfl, hb⟩; refine ⟨_, rfl, ?_⟩; have n0_ := Aside0.mk (below_step (by repeat (first | (with_reducible first | exact HB.out | apply below_alloc | apply Go.Proofs.YtplmmblofhhikaaDoor.Ext.below_bytes | apply pw_below_drewN | apply below_drew1) | exact HB.out)) hb); clear HB; have HB := n0_; clear n0_; (try clear hb); (try clear hb2); (try clear hk); (try clear hi)))
      go_ret
      exact ⟨by first | rfl | (simp [errW_none, errW_some] <;> rfl) | (simp [*, errW_none, errW_some] <;> rfl), by repeat (first | (with_reducible first | exact HB.out | apply below_alloc | apply Go.Proofs.YtplmmblofhhikaaDoor.Ext.below_bytes | apply pw_below_drewN | apply below_drew1) | exact HB.out)⟩
    · rw [if_neg c6] at H
      exact absurd H (by simp)
  · rw [if_neg c4] at H
    exact absurd H (by simp)

end Go.Proofs.YtplmmblofhhikaaDoor.PX
