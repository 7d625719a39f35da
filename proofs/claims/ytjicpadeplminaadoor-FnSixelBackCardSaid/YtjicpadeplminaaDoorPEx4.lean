-- Written by wip/pp.py, a program of this session, out of the translation. Not trusted: Lean checks it.
import Derived.Test.YtjicpadeplminaaDoorPEx0
import Derived.Test.YtjicpadeplminaaDoorPEx1
import Derived.Test.YtjicpadeplminaaDoorPEx2
import Derived.Test.YtjicpadeplminaaDoorPEx3
namespace Go.Proofs.YtjicpadeplminaaDoor.PE
open Go.RowKit Go.Proofs.YtjicpadeplminaaDoor.Or Go.Proofs.YtjicpadeplminaaDoor.Bld Go.Proofs.YtjicpadeplminaaDoorW.PrintWords Go.Proofs.YtjicpadeplminaaDoorW.PrintLast Go.Proofs.YtjicpadeplminaaDoorW.PrintMore
attribute [local go_sem] max2_int min2_int max_two min_two max_three min_three max_four min_four   -- for this text's walks alone
attribute [local go_sem] Go.Proofs.YtjicpadeplminaaDoor.Ext.wrap64_mod256 Go.Proofs.YtjicpadeplminaaDoor.Ext.wrap64_mod32 Go.Proofs.YtjicpadeplminaaDoor.Ext.i64_mod256 Go.Proofs.YtjicpadeplminaaDoor.Ext.i64_mod32 Go.Proofs.YtjicpadeplminaaDoor.Ext.i64_u8 Go.Proofs.YtjicpadeplminaaDoor.Ext.w64_u8 Go.Proofs.YtjicpadeplminaaDoor.Ext.i64_u32 Go.Proofs.YtjicpadeplminaaDoor.Ext.w64_u32 
set_option linter.unusedVariables false
set_option linter.unusedSimpArgs false

attribute [local go_sem high] eqA23 eqA33
/-! ### laws_FnSixelBack: function 6 -/
mutual
def laws_FnSixelBack.l0 : Nat → Int → Int → List Int → Int → Int → Int → Int → Int → Int → Int → Int → Int → Int → Int → Option (Bool)
  | 0, _, _, _, _, _, _, _, _, _, _, _, _, _, _ => none
  | k + 1, x1, x2, x40, x41, x42, x140000, x140001, x140002, x140003, x141000, x141001, x141002, x141003, x141004 => if x42 < x41 then (if 0 ≤ x42 then (if x42 < (x40.length : Int) then (if (rd x40 x42) < 0 then ((impl_WriteRepeat.f 2 97).bind fun t145 => (some (t145.toList == ([33, 50, 97] : List UInt8)))) else (if (rd x40 x42) > 1000000000000000 then ((impl_WriteRepeat.f 2 97).bind fun t146 => (some (t146.toList == ([33, 50, 97] : List UInt8)))) else (laws_FnSixelBack.l0 k x1 x2 x40 x41 (wrap64 (x42 + 1)) x140000 x140001 x140002 x140003 x141000 x141001 x141002 x141003 x141004))) else (none)) else (none)) else (if x140001 > 0 then (laws_FnSixelBack.j1 k x1 x2 (decide (x140002 > 0)) x140000 x140001 x140002 x140003 x141000 x141001 x141002 x141003 x141004) else (laws_FnSixelBack.j1 k x1 x2 false x140000 x140001 x140002 x140003 x141000 x141001 x141002 x141003 x141004))
def laws_FnSixelBack.j1 : Nat → Int → Int → Bool → Int → Int → Int → Int → Int → Int → Int → Int → Int → Option (Bool)
  | 0, _, _, _, _, _, _, _, _, _, _, _, _ => none
  | k + 1, x1, x2, x62, x140000, x140001, x140002, x140003, x141000, x141001, x141002, x141003, x141004 => if x62 = true then ((impl_WriteRaster.f x140000 x140001 x140002 x140003).bind fun t147 => (if t147.size + 1 ≤ 9223372036854775807 then (if (t147 ++ (⟨#[35]⟩ : ByteArray)).size ≤ 9223372036854775807 then ((impl_DecodeRaster.f (bytesOf (t147 ++ (⟨#[35]⟩ : ByteArray)))).bind fun bt148 => (if (!(bt148.1 == x140000) || (!(bt148.2.1 == x140001) || (!(bt148.2.2.1 == x140002) || (!(bt148.2.2.2.1 == x140003))))) = true then (some false) else (if bt148.2.2.2.2 = (t147.size : Int) then (laws_FnSixelBack.j2 k x1 x2 x141000 x141001 x141002 x141003 x141004) else (some false)))) else (none)) else (none))) else (laws_FnSixelBack.j2 k x1 x2 x141000 x141001 x141002 x141003 x141004)
def laws_FnSixelBack.j2 : Nat → Int → Int → Int → Int → Int → Int → Int → Option (Bool)
  | 0, _, _, _, _, _, _, _ => none
  | k + 1, x1, x2, x141000, x141001, x141002, x141003, x141004 => if x2 < 128 then (if x2 < 48 then (laws_FnSixelBack.j3 k x1 x2 true x141000 x141001 x141002 x141003 x141004) else (laws_FnSixelBack.j3 k x1 x2 (decide (x2 > 57)) x141000 x141001 x141002 x141003 x141004)) else (laws_FnSixelBack.j3 k x1 x2 false x141000 x141001 x141002 x141003 x141004)
def laws_FnSixelBack.j3 : Nat → Int → Int → Bool → Int → Int → Int → Int → Int → Option (Bool)
  | 0, _, _, _, _, _, _, _, _ => none
  | k + 1, x1, x2, x90, x141000, x141001, x141002, x141003, x141004 => if x90 = true then ((impl_WriteRepeat.f x1 x2).bind fun t154 => (if t154.size + 1 ≤ 9223372036854775807 then (if (t154 ++ (⟨#[126]⟩ : ByteArray)).size ≤ 9223372036854775807 then ((impl_DecodeRepeat.f k (bytesOf (t154 ++ (⟨#[126]⟩ : ByteArray)))).bind fun bt155 => (if bt155.1 = x1 then (if bt155.2.1 = x2 then (if bt155.2.2 = (t154.size : Int) then (laws_FnSixelBack.j4 k x141000 x141001 x141002 x141003 x141004) else (some false)) else (some false)) else (some false))) else (none)) else (none))) else (laws_FnSixelBack.j4 k x141000 x141001 x141002 x141003 x141004)
def laws_FnSixelBack.j4 : Nat → Int → Int → Int → Int → Int → Option (Bool)
  | 0, _, _, _, _, _ => none
  | k + 1, x141000, x141001, x141002, x141003, x141004 => if x141001 = 1 then (laws_FnSixelBack.j5 k true x141000 x141001 x141002 x141003 x141004) else (laws_FnSixelBack.j5 k (x141001 == 2) x141000 x141001 x141002 x141003 x141004)
def laws_FnSixelBack.j5 : Nat → Bool → Int → Int → Int → Int → Int → Option (Bool)
  | 0, _, _, _, _, _, _ => none
  | k + 1, x123, x141000, x141001, x141002, x141003, x141004 => if x123 = true then ((impl_WriteColor.f x141000 x141001 x141002 x141003 x141004).bind fun t158 => (if t158.size + 1 ≤ 9223372036854775807 then (if (t158 ++ (⟨#[63]⟩ : ByteArray)).size ≤ 9223372036854775807 then ((impl_DecodeColor.f (bytesOf (t158 ++ (⟨#[63]⟩ : ByteArray)))).bind fun bt159 => (if (!(bt159.1 == x141000) || (!(bt159.2.1 == x141001) || (!(bt159.2.2.1 == x141002) || (!(bt159.2.2.2.1 == x141003) || (!(bt159.2.2.2.2.1 == x141004)))))) = true then (some false) else (if bt159.2.2.2.2.2 = (t158.size : Int) then ((impl_WriteRepeat.f 2 97).bind fun t166 => (some (t166.toList == ([33, 50, 97] : List UInt8)))) else (some false)))) else (none)) else (none))) else ((impl_WriteRepeat.f 2 97).bind fun t167 => (some (t167.toList == ([33, 50, 97] : List UInt8))))
end
def laws_FnSixelBack.f (k : Nat) (a0_0 : Int) (a0_1 : Int) (a0_2 : Int) (a0_3 : Int) (a1 : Int) (a2 : Int) (a3_0 : Int) (a3_1 : Int) (a3_2 : Int) (a3_3 : Int) (a3_4 : Int) : Option (Bool) := (some (([a0_0, a0_1, a0_2, a0_3, a1, a3_0, a3_1, a3_2, a3_3, a3_4] : List Int) : List Int)).bind fun y141 => (laws_FnSixelBack.l0 k a1 a2 y141 (y141.length : Int) 0 a0_0 a0_1 a0_2 a0_3 a3_0 a3_1 a3_2 a3_3 a3_4)
theorem laws_FnSixelBack.mono_l : ∀ k, (∀ y0 y1 y2 y3 y4 y5 y6 y7 y8 y9 y10 y11 y12 y13, LeO (laws_FnSixelBack.l0 k y0 y1 y2 y3 y4 y5 y6 y7 y8 y9 y10 y11 y12 y13) (laws_FnSixelBack.l0 (k + 1) y0 y1 y2 y3 y4 y5 y6 y7 y8 y9 y10 y11 y12 y13)) ∧ (∀ y0 y1 y2 y3 y4 y5 y6 y7 y8 y9 y10 y11, LeO (laws_FnSixelBack.j1 k y0 y1 y2 y3 y4 y5 y6 y7 y8 y9 y10 y11) (laws_FnSixelBack.j1 (k + 1) y0 y1 y2 y3 y4 y5 y6 y7 y8 y9 y10 y11)) ∧ (∀ y0 y1 y2 y3 y4 y5 y6, LeO (laws_FnSixelBack.j2 k y0 y1 y2 y3 y4 y5 y6) (laws_FnSixelBack.j2 (k + 1) y0 y1 y2 y3 y4 y5 y6)) ∧ (∀ y0 y1 y2 y3 y4 y5 y6 y7, LeO (laws_FnSixelBack.j3 k y0 y1 y2 y3 y4 y5 y6 y7) (laws_FnSixelBack.j3 (k + 1) y0 y1 y2 y3 y4 y5 y6 y7)) ∧ (∀ y0 y1 y2 y3 y4, LeO (laws_FnSixelBack.j4 k y0 y1 y2 y3 y4) (laws_FnSixelBack.j4 (k + 1) y0 y1 y2 y3 y4)) ∧ (∀ y0 y1 y2 y3 y4 y5, LeO (laws_FnSixelBack.j5 k y0 y1 y2 y3 y4 y5) (laws_FnSixelBack.j5 (k + 1) y0 y1 y2 y3 y4 y5))
  | 0 => ⟨fun _ _ _ _ _ _ _ _ _ _ _ _ _ _ r h => by simp [laws_FnSixelBack.l0] at h, fun _ _ _ _ _ _ _ _ _ _ _ _ r h => by simp [laws_FnSixelBack.j1] at h, fun _ _ _ _ _ _ _ r h => by simp [laws_FnSixelBack.j2] at h, fun _ _ _ _ _ _ _ _ r h => by simp [laws_FnSixelBack.j3] at h, fun _ _ _ _ _ r h => by simp [laws_FnSixelBack.j4] at h, fun _ _ _ _ _ _ r h => by simp [laws_FnSixelBack.j5] at h⟩
  | k + 1 => by
    obtain ⟨ih0, ih1, ih2, ih3, ih4, ih5⟩ := laws_FnSixelBack.mono_l k
    refine ⟨?_, ?_, ?_, ?_, ?_, ?_⟩
    · intro y0 y1 y2 y3 y4 y5 y6 y7 y8 y9 y10 y11 y12 y13
      unfold laws_FnSixelBack.l0
      repeat' first
      | (with_reducible exact ih0 _ _ _ _ _ _ _ _ _ _ _ _ _ _)
      | (with_reducible exact ih1 _ _ _ _ _ _ _ _ _ _ _ _)
      | (with_reducible exact ih2 _ _ _ _ _ _ _)
      | (with_reducible exact ih3 _ _ _ _ _ _ _ _)
      | (with_reducible exact ih4 _ _ _ _ _)
      | (with_reducible exact ih5 _ _ _ _ _ _)
      | (with_reducible exact impl_DecodeRepeat.mono _ _)
      | (with_reducible exact LeO.refl _)
      | (with_reducible exact LeO.none _)
      | (with_reducible refine LeO.ite ?_ ?_)
      | (with_reducible refine LeO.bind ?_ (fun _ => ?_))
      | exact ih0 _ _ _ _ _ _ _ _ _ _ _ _ _ _
      | exact ih1 _ _ _ _ _ _ _ _ _ _ _ _
      | exact ih2 _ _ _ _ _ _ _
      | exact ih3 _ _ _ _ _ _ _ _
      | exact ih4 _ _ _ _ _
      | exact ih5 _ _ _ _ _ _
      | exact impl_DecodeRepeat.mono _ _
      | exact LeO.none _
      | refine LeO.ite ?_ ?_
      | refine LeO.bind ?_ (fun _ => ?_)
    · intro y0 y1 y2 y3 y4 y5 y6 y7 y8 y9 y10 y11
      unfold laws_FnSixelBack.j1
      repeat' first
      | (with_reducible exact ih0 _ _ _ _ _ _ _ _ _ _ _ _ _ _)
      | (with_reducible exact ih1 _ _ _ _ _ _ _ _ _ _ _ _)
      | (with_reducible exact ih2 _ _ _ _ _ _ _)
      | (with_reducible exact ih3 _ _ _ _ _ _ _ _)
      | (with_reducible exact ih4 _ _ _ _ _)
      | (with_reducible exact ih5 _ _ _ _ _ _)
      | (with_reducible exact impl_DecodeRepeat.mono _ _)
      | (with_reducible exact LeO.refl _)
      | (with_reducible exact LeO.none _)
      | (with_reducible refine LeO.ite ?_ ?_)
      | (with_reducible refine LeO.bind ?_ (fun _ => ?_))
      | exact ih0 _ _ _ _ _ _ _ _ _ _ _ _ _ _
      | exact ih1 _ _ _ _ _ _ _ _ _ _ _ _
      | exact ih2 _ _ _ _ _ _ _
      | exact ih3 _ _ _ _ _ _ _ _
      | exact ih4 _ _ _ _ _
      | exact ih5 _ _ _ _ _ _
      | exact impl_DecodeRepeat.mono _ _
      | exact LeO.none _
      | refine LeO.ite ?_ ?_
      | refine LeO.bind ?_ (fun _ => ?_)
    · intro y0 y1 y2 y3 y4 y5 y6
      unfold laws_FnSixelBack.j2
      repeat' first
      | (with_reducible exact ih0 _ _ _ _ _ _ _ _ _ _ _ _ _ _)
      | (with_reducible exact ih1 _ _ _ _ _ _ _ _ _ _ _ _)
      | (with_reducible exact ih2 _ _ _ _ _ _ _)
      | (with_reducible exact ih3 _ _ _ _ _ _ _ _)
      | (with_reducible exact ih4 _ _ _ _ _)
      | (with_reducible exact ih5 _ _ _ _ _ _)
      | (with_reducible exact impl_DecodeRepeat.mono _ _)
      | (with_reducible exact LeO.refl _)
      | (with_reducible exact LeO.none _)
      | (with_reducible refine LeO.ite ?_ ?_)
      | (with_reducible refine LeO.bind ?_ (fun _ => ?_))
      | exact ih0 _ _ _ _ _ _ _ _ _ _ _ _ _ _
      | exact ih1 _ _ _ _ _ _ _ _ _ _ _ _
      | exact ih2 _ _ _ _ _ _ _
      | exact ih3 _ _ _ _ _ _ _ _
      | exact ih4 _ _ _ _ _
      | exact ih5 _ _ _ _ _ _
      | exact impl_DecodeRepeat.mono _ _
      | exact LeO.none _
      | refine LeO.ite ?_ ?_
      | refine LeO.bind ?_ (fun _ => ?_)
    · intro y0 y1 y2 y3 y4 y5 y6 y7
      unfold laws_FnSixelBack.j3
      repeat' first
      | (with_reducible exact ih0 _ _ _ _ _ _ _ _ _ _ _ _ _ _)
      | (with_reducible exact ih1 _ _ _ _ _ _ _ _ _ _ _ _)
      | (with_reducible exact ih2 _ _ _ _ _ _ _)
      | (with_reducible exact ih3 _ _ _ _ _ _ _ _)
      | (with_reducible exact ih4 _ _ _ _ _)
      | (with_reducible exact ih5 _ _ _ _ _ _)
      | (with_reducible exact impl_DecodeRepeat.mono _ _)
      | (with_reducible exact LeO.refl _)
      | (with_reducible exact LeO.none _)
      | (with_reducible refine LeO.ite ?_ ?_)
      | (with_reducible refine LeO.bind ?_ (fun _ => ?_))
      | exact ih0 _ _ _ _ _ _ _ _ _ _ _ _ _ _
      | exact ih1 _ _ _ _ _ _ _ _ _ _ _ _
      | exact ih2 _ _ _ _ _ _ _
      | exact ih3 _ _ _ _ _ _ _ _
      | exact ih4 _ _ _ _ _
      | exact ih5 _ _ _ _ _ _
      | exact impl_DecodeRepeat.mono _ _
      | exact LeO.none _
      | refine LeO.ite ?_ ?_
      | refine LeO.bind ?_ (fun _ => ?_)
    · intro y0 y1 y2 y3 y4
      unfold laws_FnSixelBack.j4
      repeat' first
      | (with_reducible exact ih0 _ _ _ _ _ _ _ _ _ _ _ _ _ _)
      | (with_reducible exact ih1 _ _ _ _ _ _ _ _ _ _ _ _)
      | (with_reducible exact ih2 _ _ _ _ _ _ _)
      | (with_reducible exact ih3 _ _ _ _ _ _ _ _)
      | (with_reducible exact ih4 _ _ _ _ _)
      | (with_reducible exact ih5 _ _ _ _ _ _)
      | (with_reducible exact impl_DecodeRepeat.mono _ _)
      | (with_reducible exact LeO.refl _)
      | (with_reducible exact LeO.none _)
      | (with_reducible refine LeO.ite ?_ ?_)
      | (with_reducible refine LeO.bind ?_ (fun _ => ?_))
      | exact ih0 _ _ _ _ _ _ _ _ _ _ _ _ _ _
      | exact ih1 _ _ _ _ _ _ _ _ _ _ _ _
      | exact ih2 _ _ _ _ _ _ _
      | exact ih3 _ _ _ _ _ _ _ _
      | exact ih4 _ _ _ _ _
      | exact ih5 _ _ _ _ _ _
      | exact impl_DecodeRepeat.mono _ _
      | exact LeO.none _
      | refine LeO.ite ?_ ?_
      | refine LeO.bind ?_ (fun _ => ?_)
    · intro y0 y1 y2 y3 y4 y5
      unfold laws_FnSixelBack.j5
      repeat' first
      | (with_reducible exact ih0 _ _ _ _ _ _ _ _ _ _ _ _ _ _)
      | (with_reducible exact ih1 _ _ _ _ _ _ _ _ _ _ _ _)
      | (with_reducible exact ih2 _ _ _ _ _ _ _)
      | (with_reducible exact ih3 _ _ _ _ _ _ _ _)
      | (with_reducible exact ih4 _ _ _ _ _)
      | (with_reducible exact ih5 _ _ _ _ _ _)
      | (with_reducible exact impl_DecodeRepeat.mono _ _)
      | (with_reducible exact LeO.refl _)
      | (with_reducible exact LeO.none _)
      | (with_reducible refine LeO.ite ?_ ?_)
      | (with_reducible refine LeO.bind ?_ (fun _ => ?_))
      | exact ih0 _ _ _ _ _ _ _ _ _ _ _ _ _ _
      | exact ih1 _ _ _ _ _ _ _ _ _ _ _ _
      | exact ih2 _ _ _ _ _ _ _
      | exact ih3 _ _ _ _ _ _ _ _
      | exact ih4 _ _ _ _ _
      | exact ih5 _ _ _ _ _ _
      | exact impl_DecodeRepeat.mono _ _
      | exact LeO.none _
      | refine LeO.ite ?_ ?_
      | refine LeO.bind ?_ (fun _ => ?_)
theorem laws_FnSixelBack.mono : ∀ a0 a1 a2 a3 a4 a5 a6 a7 a8 a9 a10 k, LeO (laws_FnSixelBack.f k a0 a1 a2 a3 a4 a5 a6 a7 a8 a9 a10) (laws_FnSixelBack.f (k + 1) a0 a1 a2 a3 a4 a5 a6 a7 a8 a9 a10) := by
  intro a0 a1 a2 a3 a4 a5 a6 a7 a8 a9 a10 k
  obtain ⟨ih0, ih1, ih2, ih3, ih4, ih5⟩ := laws_FnSixelBack.mono_l k
  unfold laws_FnSixelBack.f
  repeat' first
      | (with_reducible exact ih0 _ _ _ _ _ _ _ _ _ _ _ _ _ _)
      | (with_reducible exact ih1 _ _ _ _ _ _ _ _ _ _ _ _)
      | (with_reducible exact ih2 _ _ _ _ _ _ _)
      | (with_reducible exact ih3 _ _ _ _ _ _ _ _)
      | (with_reducible exact ih4 _ _ _ _ _)
      | (with_reducible exact ih5 _ _ _ _ _ _)
      | (with_reducible exact impl_DecodeRepeat.mono _ _)
      | (with_reducible exact LeO.refl _)
      | (with_reducible exact LeO.none _)
      | (with_reducible refine LeO.ite ?_ ?_)
      | (with_reducible refine LeO.bind ?_ (fun _ => ?_))
      | exact ih0 _ _ _ _ _ _ _ _ _ _ _ _ _ _
      | exact ih1 _ _ _ _ _ _ _ _ _ _ _ _
      | exact ih2 _ _ _ _ _ _ _
      | exact ih3 _ _ _ _ _ _ _ _
      | exact ih4 _ _ _ _ _
      | exact ih5 _ _ _ _ _ _
      | exact impl_DecodeRepeat.mono _ _
      | exact LeO.none _
      | refine LeO.ite ?_ ?_
      | refine LeO.bind ?_ (fun _ => ?_)
set_option maxHeartbeats 8000000 in
set_option maxRecDepth 100000 in
theorem laws_FnSixelBack.calls (k : Nat) (a0_0 : Int) (a0_1 : Int) (a0_2 : Int) (a0_3 : Int) (a1 : Int) (a2 : Int) (a3_0 : Int) (a3_1 : Int) (a3_2 : Int) (a3_3 : Int) (a3_4 : Int) (r : Bool) (w : World) (hLD : Laid w) (h : laws_FnSixelBack.f k a0_0 a0_1 a0_2 a0_3 a1 a2 a3_0 a3_1 a3_2 a3_3 a3_4 = some r) :
    Calls Tryd.prog 6 #[.agg #[.int .i64 a0_0, .int .i64 a0_1, .int .i64 a0_2, .int .i64 a0_3], .int .i64 a1, .int .u8 a2, .agg #[.int .i64 a3_0, .int .i64 a3_1, .int .i64 a3_2, .int .i64 a3_3, .int .i64 a3_4]] w fun e w' => e = .returned (.bool r) ∧ Below w.heap.size w w' := by
  have hu33 := Tryd.underlying33
  have hu23 := Tryd.underlying23
  have HLD := Aside0.mk hLD
  clear hLD
  have kb_9_30 := fun (s : ByteArray) (W : World) => print_bytes (P := Tryd.prog) 9 30 5 Tryd.underlying9 Tryd.underlying30 Tryd.underlying5 s W
  have HB := Aside0.mk (Below.refl w.heap.size w)
  have H : ((some (([a0_0, a0_1, a0_2, a0_3, a1, a3_0, a3_1, a3_2, a3_3, a3_4] : List Int) : List Int)).bind fun y141 => (laws_FnSixelBack.l0 k a1 a2 y141 (y141.length : Int) 0 a0_0 a0_1 a0_2 a0_3 a3_0 a3_1 a3_2 a3_3 a3_4)) = some r := h
  clear h
  obtain ⟨y141, hy141⟩ : ∃ y_ : List Int, y_ = (([a0_0, a0_1, a0_2, a0_3, a1, a3_0, a3_1, a3_2, a3_3, a3_4] : List Int)) := ⟨_, rfl⟩
  replace H : (laws_FnSixelBack.l0 k a1 a2 y141 (y141.length : Int) 0 a0_0 a0_1 a0_2 a0_3 a3_0 a3_1 a3_2 a3_3 a3_4) = some r := by first | (rw [hy141]; with_reducible exact H) | (have H2_ := (Option.bind_some _ _).symm.trans H; rw [hy141]; with_reducible exact H2_) | (have H2_ := (Option.bind_some _ _).symm.trans H; with_reducible exact H2_) | with_reducible exact H | (rw [hy141]; exact H) | exact H
  have Ny141 := Aside0.mk hy141
  clear hy141
  have H' := Aside0.mk H
  clear H
  go_enter Tryd.func6, Tryd.ntmps6
  go_wp2_with (first | ((with_reducible refine gate_dst (N := 4) rfl ?_); (try (refine gate_guard (by rfl) ?_; dsimp only)); refine box_event ?hg (N := 4) ?hd (cs := #[.int .i64 a0_0, .int .i64 a0_1, .int .i64 a0_2, .int .i64 a0_3]) (t := 33) ?hr ?_; (case hd => rfl); (case hg => rfl); (case hr => first | (go_simp; done) | (go_simp; rfl)); intro gb139 hg w5 hbox hb; have n0_ := Aside0.mk (below_step (by repeat (first | (with_reducible first | exact HB.out | apply below_alloc | apply Go.Proofs.YtjicpadeplminaaDoor.Ext.below_bytes | apply pw_below_drewN | apply below_drew1) | exact HB.out)) hb); have n1_ := Aside0.mk (hbox); have n2_ := Aside0.mk ((by rw [hg]; exact (below_size (by repeat (first | (with_reducible first | exact HB.out | apply below_alloc | apply Go.Proofs.YtjicpadeplminaaDoor.Ext.below_bytes | apply pw_below_drewN | apply below_drew1) | exact HB.out))) : w.heap.size ≤ gb139)); have n3_ := Aside0.mk ((by rw [hg]; exact (below_size (by repeat (first | (with_reducible first | exact HB.out | apply below_alloc | apply Go.Proofs.YtjicpadeplminaaDoor.Ext.below_bytes | apply pw_below_drewN | apply below_drew1) | exact HB.out))) : w.heap.size ≤ gb139)); clear HB; have HB := n0_; have BK139 := n1_; have GW139 := n2_; have GE139 := n3_; clear n0_ n1_ n2_ n3_; clear hb hbox hg) | ((with_reducible refine gate_dst (N := 7) rfl ?_); (try (refine gate_guard (by rfl) ?_; dsimp only)); refine box_event ?hg (N := 7) ?hd (cs := #[.int .i64 a3_0, .int .i64 a3_1, .int .i64 a3_2, .int .i64 a3_3, .int .i64 a3_4]) (t := 23) ?hr ?_; (case hd => rfl); (case hg => rfl); (case hr => first | (go_simp; done) | (go_simp; rfl)); intro gb140 hg w6 hbox hb; have n0_ := Aside0.mk (blk_below (g := gb139) (o := .cells #[.int .i64 a0_0, .int .i64 a0_1, .int .i64 a0_2, .int .i64 a0_3] 33 (0, 0)) (by (with_reducible repeat (first | refine blk_drewN ?_ _ | refine blk_drew ?_ | refine blk_alloc ?_ _ | refine Go.Proofs.YtjicpadeplminaaDoor.Back.blk_bytes ?_)); exact BK139.out) hb); have n1_ := Aside0.mk (below_step (by repeat (first | (with_reducible first | exact HB.out | apply below_alloc | apply Go.Proofs.YtjicpadeplminaaDoor.Ext.below_bytes | apply pw_below_drewN | apply below_drew1 | refine below_set ?_ GE139.out) | exact HB.out)) hb); have n2_ := Aside0.mk (hbox); have n3_ := Aside0.mk ((by rw [hg]; exact (below_size (by repeat (first | (with_reducible first | exact HB.out | apply below_alloc | apply Go.Proofs.YtjicpadeplminaaDoor.Ext.below_bytes | apply pw_below_drewN | apply below_drew1 | refine below_set ?_ GE139.out) | exact HB.out))) : w.heap.size ≤ gb140)); have n4_ := Aside0.mk ((by rw [hg]; exact (below_size (by repeat (first | (with_reducible first | exact HB.out | apply below_alloc | apply Go.Proofs.YtjicpadeplminaaDoor.Ext.below_bytes | apply pw_below_drewN | apply below_drew1 | refine below_set ?_ GE139.out) | exact HB.out))) : w.heap.size ≤ gb140)); have n5_ := Aside0.mk ((by rw [hg]; exact Nat.ne_of_lt (blk_lt (g := gb139) (o := .cells #[.int .i64 a0_0, .int .i64 a0_1, .int .i64 a0_2, .int .i64 a0_3] 33 (0, 0)) (by (with_reducible repeat (first | refine blk_drewN ?_ _ | refine blk_drew ?_ | refine blk_alloc ?_ _ | refine Go.Proofs.YtjicpadeplminaaDoor.Back.blk_bytes ?_)); exact BK139.out)) : gb139 ≠ gb140)); have n6_ := Aside0.mk ((by rw [hg]; exact Nat.ne_of_gt (blk_lt (g := gb139) (o := .cells #[.int .i64 a0_0, .int .i64 a0_1, .int .i64 a0_2, .int .i64 a0_3] 33 (0, 0)) (by (with_reducible repeat (first | refine blk_drewN ?_ _ | refine blk_drew ?_ | refine blk_alloc ?_ _ | refine Go.Proofs.YtjicpadeplminaaDoor.Back.blk_bytes ?_)); exact BK139.out)) : gb140 ≠ gb139)); clear BK139; clear HB; have BK139 := n0_; have HB := n1_; have BK140 := n2_; have GW140 := n3_; have GE140 := n4_; have NB139_140 := n5_; have NB140_139 := n6_; clear n0_ n1_ n2_ n3_ n4_ n5_ n6_; clear hb hbox hg; have hnb7 := NB139_140.out; have hnc7 := NB140_139.out; have hcz8_0 : w6.cell? ⟨gb139, 0, none⟩ = some (.int .i64 a0_0) := (blk_cell BK139.out 0).trans rfl; have hcz8_1 : w6.cell? ⟨gb139, 1, none⟩ = some (.int .i64 a0_1) := (blk_cell BK139.out 1).trans rfl; have hcz8_2 : w6.cell? ⟨gb139, 2, none⟩ = some (.int .i64 a0_2) := (blk_cell BK139.out 2).trans rfl; have hcz8_3 : w6.cell? ⟨gb139, 3, none⟩ = some (.int .i64 a0_3) := (blk_cell BK139.out 3).trans rfl; have hfz8_0 := blk_frozen BK139.out 0; have hfz8_1 := blk_frozen BK139.out 1; have hfz8_2 := blk_frozen BK139.out 2; have hfz8_3 := blk_frozen BK139.out 3; have hcz9_0 : w6.cell? ⟨gb140, 0, none⟩ = some (.int .i64 a3_0) := (blk_cell BK140.out 0).trans rfl; have hcz9_1 : w6.cell? ⟨gb140, 1, none⟩ = some (.int .i64 a3_1) := (blk_cell BK140.out 1).trans rfl; have hcz9_2 : w6.cell? ⟨gb140, 2, none⟩ = some (.int .i64 a3_2) := (blk_cell BK140.out 2).trans rfl; have hcz9_3 : w6.cell? ⟨gb140, 3, none⟩ = some (.int .i64 a3_3) := (blk_cell BK140.out 3).trans rfl; have hcz9_4 : w6.cell? ⟨gb140, 4, none⟩ = some (.int .i64 a3_4) := (blk_cell BK140.out 4).trans rfl; have hfz9_0 := blk_frozen BK140.out 0; have hfz9_1 := blk_frozen BK140.out 1; have hfz9_2 := blk_frozen BK140.out 2; have hfz9_3 := blk_frozen BK140.out 3; have hfz9_4 := blk_frozen BK140.out 4) | ((with_reducible refine gate_dst (N := 40) rfl ?_); (try (refine gate_guard (by rfl) ?_; dsimp only)); refine Kd.R_lit (Kd.int .i64) _ 2 ?hg (N := 40) ?hd (xs := ([a0_0, a0_1, a0_2, a0_3, a1, a3_0, a3_1, a3_2, a3_3, a3_4] : List Int)) (inner := [.int .i64 a0_0, .int .i64 a0_1, .int .i64 a0_2, .int .i64 a0_3, .int .i64 a1, .int .i64 a3_0, .int .i64 a3_1, .int .i64 a3_2, .int .i64 a3_3, .int .i64 a3_4]) (ok := fun _ => True) (okp := fun _ => True) ?hr ?hp (fun _ hk => hk) trivial (Below.refl _ _) (Nat.le_refl _) (by simp) ?_; (case hd => rfl); (case hg => rfl); (case hr => first | (go_simp; done) | (go_simp; rfl)); (case hp => exact (Reps.one (show Kd.M (Kd.int .i64) _ _ _ a0_0 [.int .i64 a0_0] from rfl) (Reps.one (show Kd.M (Kd.int .i64) _ _ _ a0_1 [.int .i64 a0_1] from rfl) (Reps.one (show Kd.M (Kd.int .i64) _ _ _ a0_2 [.int .i64 a0_2] from rfl) (Reps.one (show Kd.M (Kd.int .i64) _ _ _ a0_3 [.int .i64 a0_3] from rfl) (Reps.one (show Kd.M (Kd.int .i64) _ _ _ a1 [.int .i64 a1] from rfl) (Reps.one (show Kd.M (Kd.int .i64) _ _ _ a3_0 [.int .i64 a3_0] from rfl) (Reps.one (show Kd.M (Kd.int .i64) _ _ _ a3_1 [.int .i64 a3_1] from rfl) (Reps.one (show Kd.M (Kd.int .i64) _ _ _ a3_2 [.int .i64 a3_2] from rfl) (Reps.one (show Kd.M (Kd.int .i64) _ _ _ a3_3 [.int .i64 a3_3] from rfl) (Reps.one (show Kd.M (Kd.int .i64) _ _ _ a3_4 [.int .i64 a3_4] from rfl) (Reps.none _ _)))))))))))); intro v142 w10 ho11 hb hg_ hnew_; clear hg_ hnew_; (first | rw [← Ny141.out] at ho11 | (simp only [Int.reduceToNat] at ho11; rw [← Ny141.out] at ho11)); have n0_ := Aside0.mk (Kd.R_lower ho11 (below_size (by repeat (first | (with_reducible first | exact HB.out | apply below_alloc | apply Go.Proofs.YtjicpadeplminaaDoor.Ext.below_bytes | apply pw_below_drewN | apply below_drew1 | refine below_set ?_ GE139.out | refine below_set ?_ GE140.out) | exact HB.out)))); have n1_ := Aside0.mk (blk_below (g := gb139) (o := .cells #[.int .i64 a0_0, .int .i64 a0_1, .int .i64 a0_2, .int .i64 a0_3] 33 (0, 0)) (by (with_reducible repeat (first | refine blk_drewN ?_ _ | refine blk_drew ?_ | refine blk_alloc ?_ _ | refine Go.Proofs.YtjicpadeplminaaDoor.Back.blk_bytes ?_)); exact BK139.out) hb); have n2_ := Aside0.mk (blk_below (g := gb140) (o := .cells #[.int .i64 a3_0, .int .i64 a3_1, .int .i64 a3_2, .int .i64 a3_3, .int .i64 a3_4] 23 (0, 0)) (by (with_reducible repeat (first | refine blk_drewN ?_ _ | refine blk_drew ?_ | refine blk_alloc ?_ _ | refine Go.Proofs.YtjicpadeplminaaDoor.Back.blk_bytes ?_)); exact BK140.out) hb); have n3_ := Aside0.mk (below_step (by repeat (first | (with_reducible first | exact HB.out | apply below_alloc | apply Go.Proofs.YtjicpadeplminaaDoor.Ext.below_bytes | apply pw_below_drewN | apply below_drew1 | refine below_set ?_ GE139.out | refine below_set ?_ GE140.out) | exact HB.out)) hb); clear BK139; clear BK140; clear HB; have HO143 := n0_; have BK139 := n1_; have BK140 := n2_; have HB := n3_; clear n0_ n1_ n2_ n3_; clear hb ho11; obtain ⟨Ao12, co12, eo12⟩ := Kd.R_slice HO143.out; subst eo12))
  go_loopg [42] k (fun kq v42 w' => ∃ (x42_1 : Int), v42 = .int .i64 x42_1 ∧ Aside0 (laws_FnSixelBack.l0 kq a1 a2 y141 (y141.length : Int) x42_1 a0_0 a0_1 a0_2 a0_3 a3_0 a3_1 a3_2 a3_3 a3_4 = some r) ∧ Aside0 (kq ≤ k) ∧ Aside0 (Kd.R (Kd.int .i64) 2 w' w.heap.size (fun _ => True) (.slice Ao12 y141.length co12) y141) ∧ Aside0 (w'.heap[gb139]? = some (.cells #[.int .i64 a0_0, .int .i64 a0_1, .int .i64 a0_2, .int .i64 a0_3] 33 (0, 0))) ∧ Aside0 (w'.heap[gb140]? = some (.cells #[.int .i64 a3_0, .int .i64 a3_1, .int .i64 a3_2, .int .i64 a3_3, .int .i64 a3_4] 23 (0, 0))) ∧ Aside0 (Below w.heap.size w w'))
  case atStart => exact ⟨(0), (by first | rfl | (simp; done) | (simp [*]; done)), H', ⟨Nat.le_refl _⟩, ⟨by (with_reducible repeat (first | apply Kd.R_alloc | apply Go.Proofs.YtjicpadeplminaaDoor.Ext.R_bytes | apply Kd.R_drewN | apply Kd.R_drew)); exact HO143.out⟩, ⟨by (with_reducible repeat (first | refine blk_drewN ?_ _ | refine blk_drew ?_ | refine blk_alloc ?_ _ | refine Go.Proofs.YtjicpadeplminaaDoor.Back.blk_bytes ?_)); exact BK139.out⟩, ⟨by (with_reducible repeat (first | refine blk_drewN ?_ _ | refine blk_drew ?_ | refine blk_alloc ?_ _ | refine Go.Proofs.YtjicpadeplminaaDoor.Back.blk_bytes ?_)); exact BK140.out⟩, ⟨by repeat (first | (with_reducible first | exact HB.out | apply below_alloc | apply Go.Proofs.YtjicpadeplminaaDoor.Ext.below_bytes | apply pw_below_drewN | apply below_drew1 | refine below_set ?_ GE139.out | refine below_set ?_ GE140.out) | exact HB.out)⟩⟩
  case round =>
    clear H'
    try clear p2
    try clear c6
    try clear c7
    try clear hcz8_0
    try clear hcz8_1
    try clear hcz8_2
    try clear hcz8_3
    try clear hcz9_0
    try clear hcz9_1
    try clear hcz9_2
    try clear hcz9_3
    try clear hcz9_4
    try clear hfz8_0
    try clear hfz8_1
    try clear hfz8_2
    try clear hfz8_3
    try clear hfz9_0
    try clear hfz9_1
    try clear hfz9_2
    try clear hfz9_3
    try clear hfz9_4
    obtain ⟨x42_1, rfl, HA, HK1, HO_40, BK139, BK140, HB⟩ := hrel
    cases gk with
    | zero => exact absurd HA.out (by simp [laws_FnSixelBack.l0])
    | succ k1 =>
      have H := HA.out
      clear HA
      simp only [laws_FnSixelBack.l0] at H
      by_cases c13 : x42_1 < (y141.length : Int)
      · rw [if_pos c13] at H
        have c13b0 : decide (x42_1 < (y141.length : Int)) = true := decide_eq_true c13
        clear c13
        by_cases c14 : 0 ≤ x42_1
        · rw [if_pos c14] at H
          have c14b0 : decide (0 ≤ x42_1) = true := decide_eq_true c14
          clear c14
          by_cases c15 : x42_1 < (y141.length : Int)
          · rw [if_pos c15] at H
            have c15b0 : decide (x42_1 < (y141.length : Int)) = true := decide_eq_true c15
            clear c15
            by_cases c16 : (rd y141 x42_1) < 0
            · rw [if_pos c16] at H
              have c16b0 : decide ((rd y141 x42_1) < 0) = true := decide_eq_true c16
              clear c16
              replace H := Option.bind_eq_some_iff.mp H
              obtain ⟨t145, A170, H⟩ := H
              replace H : (some (t145.toList == ([33, 50, 97] : List UInt8))) = some r := H
              have A17 := Aside0.mk A170
              clear A170
              obtain rfl := Option.some.inj H
              have p144 : 0 ≤ (x42_1 : Int) := of_decide_eq_true (by first | (with_reducible assumption) | assumption)
              have q144 : x42_1 < (y141.length : Int) := of_decide_eq_true (by first | (with_reducible assumption) | assumption)
              obtain ⟨ad144, e144, hx144_0⟩ := Kd.at_int (Kd.R_reads' HO_40.out).2.2 x42_1 p144 q144
              cases e144
              replace p144 := eq_true p144
              replace q144 := eq_true q144
              go_wp2_with (first | ((with_reducible refine gate_callee (f := 9) rfl ?_); refine goesL_ (some 52) rfl rfl Tryd.func9 (by kernel_rfl) rfl #[.int .i64 2, .int .u8 97] rfl (by (try simp only [List.map_toArray, List.map_cons, List.map_nil]); first | done | rfl | (simp only [List.length_drop, List.length_take]; rfl) | (simp [Act.eval, *]; done) | (simp [Act.eval, *]; unfold wrap64; omega)) ?_; (with_reducible refine (impl_WriteRepeat.calls 2 97 t145 _ ?side1 A17.out).mono ?_); (case side1 => exact HLD.out.below (by repeat (first | (with_reducible first | exact HB.out | apply below_alloc | apply Go.Proofs.YtjicpadeplminaaDoor.Ext.below_bytes | apply pw_below_drewN | apply below_drew1 | refine below_set ?_ GE139.out | refine below_set ?_ GE140.out) | exact HB.out))); rintro e w18 ⟨rfl, hb⟩; refine ⟨_, rfl, ?_⟩; have n0_ := Aside0.mk (Kd.R_below (by (with_reducible repeat (first | apply Kd.R_alloc | apply Go.Proofs.YtjicpadeplminaaDoor.Ext.R_bytes | apply Kd.R_drewN | apply Kd.R_drew)); exact HO_40.out) hb); have n1_ := Aside0.mk (blk_below (g := gb139) (o := .cells #[.int .i64 a0_0, .int .i64 a0_1, .int .i64 a0_2, .int .i64 a0_3] 33 (0, 0)) (by (with_reducible repeat (first | refine blk_drewN ?_ _ | refine blk_drew ?_ | refine blk_alloc ?_ _ | refine Go.Proofs.YtjicpadeplminaaDoor.Back.blk_bytes ?_)); exact BK139.out) hb); have n2_ := Aside0.mk (blk_below (g := gb140) (o := .cells #[.int .i64 a3_0, .int .i64 a3_1, .int .i64 a3_2, .int .i64 a3_3, .int .i64 a3_4] 23 (0, 0)) (by (with_reducible repeat (first | refine blk_drewN ?_ _ | refine blk_drew ?_ | refine blk_alloc ?_ _ | refine Go.Proofs.YtjicpadeplminaaDoor.Back.blk_bytes ?_)); exact BK140.out) hb); have n3_ := Aside0.mk (below_step (by repeat (first | (with_reducible first | exact HB.out | apply below_alloc | apply Go.Proofs.YtjicpadeplminaaDoor.Ext.below_bytes | apply pw_below_drewN | apply below_drew1 | refine below_set ?_ GE139.out | refine below_set ?_ GE140.out) | exact HB.out)) hb); clear HO_40; clear BK139; clear BK140; clear HB; have HO_40 := n0_; have BK139 := n1_; have BK140 := n2_; have HB := n3_; clear n0_ n1_ n2_ n3_; (try clear hb); (try clear hb2); (try clear hk); (try clear hi)))
              go_ret
              exact ⟨by first | rfl | (simp [errW_none, errW_some] <;> rfl) | (simp [*, errW_none, errW_some] <;> rfl), by repeat (first | (with_reducible first | exact HB.out | apply below_alloc | apply Go.Proofs.YtjicpadeplminaaDoor.Ext.below_bytes | apply pw_below_drewN | apply below_drew1 | refine below_set ?_ GE139.out | refine below_set ?_ GE140.out) | exact HB.out)⟩
            · rw [if_neg c16] at H
              have c16b0 : decide ((rd y141 x42_1) < 0) = false := decide_eq_false c16
              clear c16
              by_cases c19 : (rd y141 x42_1) > 1000000000000000
              · rw [if_pos c19] at H
                have c19b0 : decide (1000000000000000 < (rd y141 x42_1)) = true := decide_eq_true c19
                clear c19
                replace H := Option.bind_eq_some_iff.mp H
                obtain ⟨t146, A200, H⟩ := H
                replace H : (some (t146.toList == ([33, 50, 97] : List UInt8))) = some r := H
                have A20 := Aside0.mk A200
                clear A200
                obtain rfl := Option.some.inj H
                have p144 : 0 ≤ (x42_1 : Int) := of_decide_eq_true (by first | (with_reducible assumption) | assumption)
                have q144 : x42_1 < (y141.length : Int) := of_decide_eq_true (by first | (with_reducible assumption) | assumption)
                obtain ⟨ad144, e144, hx144_0⟩ := Kd.at_int (Kd.R_reads' HO_40.out).2.2 x42_1 p144 q144
                cases e144
                replace p144 := eq_true p144
                replace q144 := eq_true q144
                go_wp2_with (first | ((with_reducible refine gate_callee (f := 9) rfl ?_); refine goesL_ (some 52) rfl rfl Tryd.func9 (by kernel_rfl) rfl #[.int .i64 2, .int .u8 97] rfl (by (try simp only [List.map_toArray, List.map_cons, List.map_nil]); first | done | rfl | (simp only [List.length_drop, List.length_take]; rfl) | (simp [Act.eval, *]; done) | (simp [Act.eval, *]; unfold wrap64; omega)) ?_; (with_reducible refine (impl_WriteRepeat.calls 2 97 t146 _ ?side1 A20.out).mono ?_); (case side1 => exact HLD.out.below (by repeat (first | (with_reducible first | exact HB.out | apply below_alloc | apply Go.Proofs.YtjicpadeplminaaDoor.Ext.below_bytes | apply pw_below_drewN | apply below_drew1 | refine below_set ?_ GE139.out | refine below_set ?_ GE140.out) | exact HB.out))); rintro e w21 ⟨rfl, hb⟩; refine ⟨_, rfl, ?_⟩; have n0_ := Aside0.mk (Kd.R_below (by (with_reducible repeat (first | apply Kd.R_alloc | apply Go.Proofs.YtjicpadeplminaaDoor.Ext.R_bytes | apply Kd.R_drewN | apply Kd.R_drew)); exact HO_40.out) hb); have n1_ := Aside0.mk (blk_below (g := gb139) (o := .cells #[.int .i64 a0_0, .int .i64 a0_1, .int .i64 a0_2, .int .i64 a0_3] 33 (0, 0)) (by (with_reducible repeat (first | refine blk_drewN ?_ _ | refine blk_drew ?_ | refine blk_alloc ?_ _ | refine Go.Proofs.YtjicpadeplminaaDoor.Back.blk_bytes ?_)); exact BK139.out) hb); have n2_ := Aside0.mk (blk_below (g := gb140) (o := .cells #[.int .i64 a3_0, .int .i64 a3_1, .int .i64 a3_2, .int .i64 a3_3, .int .i64 a3_4] 23 (0, 0)) (by (with_reducible repeat (first | refine blk_drewN ?_ _ | refine blk_drew ?_ | refine blk_alloc ?_ _ | refine Go.Proofs.YtjicpadeplminaaDoor.Back.blk_bytes ?_)); exact BK140.out) hb); have n3_ := Aside0.mk (below_step (by repeat (first | (with_reducible first | exact HB.out | apply below_alloc | apply Go.Proofs.YtjicpadeplminaaDoor.Ext.below_bytes | apply pw_below_drewN | apply below_drew1 | refine below_set ?_ GE139.out | refine below_set ?_ GE140.out) | exact HB.out)) hb); clear HO_40; clear BK139; clear BK140; clear HB; have HO_40 := n0_; have BK139 := n1_; have BK140 := n2_; have HB := n3_; clear n0_ n1_ n2_ n3_; (try clear hb); (try clear hb2); (try clear hk); (try clear hi)))
                go_ret
                exact ⟨by first | rfl | (simp [errW_none, errW_some] <;> rfl) | (simp [*, errW_none, errW_some] <;> rfl), by repeat (first | (with_reducible first | exact HB.out | apply below_alloc | apply Go.Proofs.YtjicpadeplminaaDoor.Ext.below_bytes | apply pw_below_drewN | apply below_drew1 | refine below_set ?_ GE139.out | refine below_set ?_ GE140.out) | exact HB.out)⟩
              · rw [if_neg c19] at H
                have c19b0 : decide (1000000000000000 < (rd y141 x42_1)) = false := decide_eq_false c19
                clear c19
                have H' := Aside0.mk H
                clear H
                have p144 : 0 ≤ (x42_1 : Int) := of_decide_eq_true (by first | (with_reducible assumption) | assumption)
                have q144 : x42_1 < (y141.length : Int) := of_decide_eq_true (by first | (with_reducible assumption) | assumption)
                obtain ⟨ad144, e144, hx144_0⟩ := Kd.at_int (Kd.R_reads' HO_40.out).2.2 x42_1 p144 q144
                cases e144
                replace p144 := eq_true p144
                replace q144 := eq_true q144
                go_wp2
                go_roundg k1
                case measure => have := HK1.out; omega
                case rel => exact ⟨(wrap64 (x42_1 + 1)), (by first | rfl | (simp; done) | (simp [*]; done)), H', ⟨by have := HK1.out; omega⟩, ⟨by (with_reducible repeat (first | apply Kd.R_alloc | apply Go.Proofs.YtjicpadeplminaaDoor.Ext.R_bytes | apply Kd.R_drewN | apply Kd.R_drew)); exact HO_40.out⟩, ⟨by (with_reducible repeat (first | refine blk_drewN ?_ _ | refine blk_drew ?_ | refine blk_alloc ?_ _ | refine Go.Proofs.YtjicpadeplminaaDoor.Back.blk_bytes ?_)); exact BK139.out⟩, ⟨by (with_reducible repeat (first | refine blk_drewN ?_ _ | refine blk_drew ?_ | refine blk_alloc ?_ _ | refine Go.Proofs.YtjicpadeplminaaDoor.Back.blk_bytes ?_)); exact BK140.out⟩, ⟨by repeat (first | (with_reducible first | exact HB.out | apply below_alloc | apply Go.Proofs.YtjicpadeplminaaDoor.Ext.below_bytes | apply pw_below_drewN | apply below_drew1 | refine below_set ?_ GE139.out | refine below_set ?_ GE140.out) | exact HB.out)⟩⟩
          · rw [if_neg c15] at H
            exact absurd H (by simp)
        · rw [if_neg c14] at H
          exact absurd H (by simp)
      · rw [if_neg c13] at H
        have c13b0 : decide (x42_1 < (y141.length : Int)) = false := decide_eq_false c13
        clear c13
        have HC22 := Aside0.mk H
        clear H
        go_upto_region 7 with (fail)
        go_cut [62] (fun v62 wc => ∃ (kq : Nat) (x62_21 : Bool), v62 = .bool x62_21 ∧ Aside0 (laws_FnSixelBack.j1 kq a1 a2 x62_21 a0_0 a0_1 a0_2 a0_3 a3_0 a3_1 a3_2 a3_3 a3_4 = some r) ∧ Aside0 (kq ≤ k1) ∧ Aside0 (wc.heap[gb139]? = some (.cells #[.int .i64 a0_0, .int .i64 a0_1, .int .i64 a0_2, .int .i64 a0_3] 33 (0, 0))) ∧ Aside0 (wc.heap[gb140]? = some (.cells #[.int .i64 a3_0, .int .i64 a3_1, .int .i64 a3_2, .int .i64 a3_3, .int .i64 a3_4] 23 (0, 0))) ∧ Aside0 (Below w.heap.size w wc))
        case first =>
          have H := HC22.out
          clear HC22
          by_cases c23 : a0_1 > 0
          · rw [if_pos c23] at H
            have c23b0 : decide (0 < a0_1) = true := decide_eq_true c23
            clear c23
            (first | rw [c23b0] | (simp only [i64_w, i32_w]; rw [c23b0]) | skip)
            have H' := Aside0.mk H
            clear H
            have hnb24 := NB139_140.out
            have hnc24 := NB140_139.out
            have hcz25_0 : wr.cell? ⟨gb139, 0, none⟩ = some (.int .i64 a0_0) := (blk_cell BK139.out 0).trans rfl
            have hcz25_1 : wr.cell? ⟨gb139, 1, none⟩ = some (.int .i64 a0_1) := (blk_cell BK139.out 1).trans rfl
            have hcz25_2 : wr.cell? ⟨gb139, 2, none⟩ = some (.int .i64 a0_2) := (blk_cell BK139.out 2).trans rfl
            have hcz25_3 : wr.cell? ⟨gb139, 3, none⟩ = some (.int .i64 a0_3) := (blk_cell BK139.out 3).trans rfl
            have hfz25_0 := blk_frozen BK139.out 0
            have hfz25_1 := blk_frozen BK139.out 1
            have hfz25_2 := blk_frozen BK139.out 2
            have hfz25_3 := blk_frozen BK139.out 3
            go_wp2
            go_meet
            case rel => exact ⟨_, (decide (a0_2 > 0)), (by first | rfl | (simp; done) | (simp [*]; done)), H', ⟨by have := HK1.out; first | omega | exact Nat.le_refl _⟩, ⟨by (with_reducible repeat (first | refine blk_drewN ?_ _ | refine blk_drew ?_ | refine blk_alloc ?_ _ | refine Go.Proofs.YtjicpadeplminaaDoor.Back.blk_bytes ?_)); exact BK139.out⟩, ⟨by (with_reducible repeat (first | refine blk_drewN ?_ _ | refine blk_drew ?_ | refine blk_alloc ?_ _ | refine Go.Proofs.YtjicpadeplminaaDoor.Back.blk_bytes ?_)); exact BK140.out⟩, ⟨by repeat (first | (with_reducible first | exact HB.out | apply below_alloc | apply Go.Proofs.YtjicpadeplminaaDoor.Ext.below_bytes | apply pw_below_drewN | apply below_drew1 | refine below_set ?_ GE139.out | refine below_set ?_ GE140.out) | exact HB.out)⟩⟩
          · rw [if_neg c23] at H
            have c23b0 : decide (0 < a0_1) = false := decide_eq_false c23
            clear c23
            (first | rw [c23b0] | (simp only [i64_w, i32_w]; rw [c23b0]) | skip)
            have H' := Aside0.mk H
            clear H
            have hnb26 := NB139_140.out
            have hnc26 := NB140_139.out
            have hcz27_0 : wr.cell? ⟨gb139, 0, none⟩ = some (.int .i64 a0_0) := (blk_cell BK139.out 0).trans rfl
            have hcz27_1 : wr.cell? ⟨gb139, 1, none⟩ = some (.int .i64 a0_1) := (blk_cell BK139.out 1).trans rfl
            have hcz27_2 : wr.cell? ⟨gb139, 2, none⟩ = some (.int .i64 a0_2) := (blk_cell BK139.out 2).trans rfl
            have hcz27_3 : wr.cell? ⟨gb139, 3, none⟩ = some (.int .i64 a0_3) := (blk_cell BK139.out 3).trans rfl
            have hfz27_0 := blk_frozen BK139.out 0
            have hfz27_1 := blk_frozen BK139.out 1
            have hfz27_2 := blk_frozen BK139.out 2
            have hfz27_3 := blk_frozen BK139.out 3
            go_wp2
            go_meet
            case rel => exact ⟨_, (false), (by first | rfl | (simp; done) | (simp [*]; done)), H', ⟨by have := HK1.out; first | omega | exact Nat.le_refl _⟩, ⟨by (with_reducible repeat (first | refine blk_drewN ?_ _ | refine blk_drew ?_ | refine blk_alloc ?_ _ | refine Go.Proofs.YtjicpadeplminaaDoor.Back.blk_bytes ?_)); exact BK139.out⟩, ⟨by (with_reducible repeat (first | refine blk_drewN ?_ _ | refine blk_drew ?_ | refine blk_alloc ?_ _ | refine Go.Proofs.YtjicpadeplminaaDoor.Back.blk_bytes ?_)); exact BK140.out⟩, ⟨by repeat (first | (with_reducible first | exact HB.out | apply below_alloc | apply Go.Proofs.YtjicpadeplminaaDoor.Ext.below_bytes | apply pw_below_drewN | apply below_drew1 | refine below_set ?_ GE139.out | refine below_set ?_ GE140.out) | exact HB.out)⟩⟩
        case rest =>
          clear HC22
          try clear c1
          try clear p1
          try clear q1
          try clear hx1
          try clear c2
          try clear p2
          try clear c6
          try clear p6
          try clear c7
          try clear c9
          try clear c13
          try clear c13b0
          try clear c14
          try clear c14b0
          try clear p14
          try clear q14
          try clear hx14
          try clear c15
          try clear c15b0
          try clear c16
          try clear c16b0
          try clear c19
          try clear c19b0
          try clear c23
          try clear c23b0
          try clear c24
          try clear c26
          try clear hcz25_0
          try clear hcz25_1
          try clear hcz25_2
          try clear hcz25_3
          try clear hcz27_0
          try clear hcz27_1
          try clear hcz27_2
          try clear hcz27_3
          try clear hcz8_0
          try clear hcz8_1
          try clear hcz8_2
          try clear hcz8_3
          try clear hcz9_0
          try clear hcz9_1
          try clear hcz9_2
          try clear hcz9_3
          try clear hcz9_4
          try clear hfz25_0
          try clear hfz25_1
          try clear hfz25_2
          try clear hfz25_3
          try clear hfz27_0
          try clear hfz27_1
          try clear hfz27_2
          try clear hfz27_3
          try clear hfz8_0
          try clear hfz8_1
          try clear hfz8_2
          try clear hfz8_3
          try clear hfz9_0
          try clear hfz9_1
          try clear hfz9_2
          try clear hfz9_3
          try clear hfz9_4
          try clear hx144_0
          try clear p144
          try clear p2
          try clear q144
          obtain ⟨kq, x62_21, rfl, HA, HJ21, BK139, BK140, HB⟩ := hcut
          cases kq with
          | zero => exact absurd HA.out (by simp [laws_FnSixelBack.j1])
          | succ kj21 =>
            have H := HA.out
            clear HA
            simp only [laws_FnSixelBack.j1] at H
            have HC28 := Aside0.mk H
            clear H
            go_upto_if 62 with (fail)
            go_cut [] (fun wc => ∃ (kq : Nat), Aside0 (laws_FnSixelBack.j2 kq a1 a2 a3_0 a3_1 a3_2 a3_3 a3_4 = some r) ∧ Aside0 (kq ≤ kj21) ∧ Aside0 (wc.heap[gb139]? = some (.cells #[.int .i64 a0_0, .int .i64 a0_1, .int .i64 a0_2, .int .i64 a0_3] 33 (0, 0))) ∧ Aside0 (wc.heap[gb140]? = some (.cells #[.int .i64 a3_0, .int .i64 a3_1, .int .i64 a3_2, .int .i64 a3_3, .int .i64 a3_4] 23 (0, 0))) ∧ Aside0 (Below w.heap.size w wc))
            case first =>
              have H := HC28.out
              clear HC28
              by_cases c29 : x62_21 = true
              · subst c29
                have H1 : ((impl_WriteRaster.f a0_0 a0_1 a0_2 a0_3).bind fun t147 => (if t147.size + 1 ≤ 9223372036854775807 then (if (t147 ++ (⟨#[35]⟩ : ByteArray)).size ≤ 9223372036854775807 then ((impl_DecodeRaster.f (bytesOf (t147 ++ (⟨#[35]⟩ : ByteArray)))).bind fun bt148 => (if (!(bt148.1 == a0_0) || (!(bt148.2.1 == a0_1) || (!(bt148.2.2.1 == a0_2) || (!(bt148.2.2.2.1 == a0_3))))) = true then (some false) else (if bt148.2.2.2.2 = (t147.size : Int) then (laws_FnSixelBack.j2 kj21 a1 a2 a3_0 a3_1 a3_2 a3_3 a3_4) else (some false)))) else (none)) else (none))) = some r := by rw [if_pos rfl] at H; exact H
                clear H
                have H := H1
                clear H1
                replace H := Option.bind_eq_some_iff.mp H
                obtain ⟨t147, A300, H⟩ := H
                replace H : (if t147.size + 1 ≤ 9223372036854775807 then (if (t147 ++ (⟨#[35]⟩ : ByteArray)).size ≤ 9223372036854775807 then ((impl_DecodeRaster.f (bytesOf (t147 ++ (⟨#[35]⟩ : ByteArray)))).bind fun bt148 => (if (!(bt148.1 == a0_0) || (!(bt148.2.1 == a0_1) || (!(bt148.2.2.1 == a0_2) || (!(bt148.2.2.2.1 == a0_3))))) = true then (some false) else (if bt148.2.2.2.2 = (t147.size : Int) then (laws_FnSixelBack.j2 kj21 a1 a2 a3_0 a3_1 a3_2 a3_3 a3_4) else (some false)))) else (none)) else (none)) = some r := H
                have A30 := Aside0.mk A300
                clear A300
                by_cases c31 : t147.size + 1 ≤ 9223372036854775807
                · rw [if_pos c31] at H
                  have c31b0 := eq_true c31
                  have c31b1 : decide (t147.size + 1 ≤ 9223372036854775807) = true := decide_eq_true c31
                  try have c31b2 : (9223372036854775807 < t147.size + 1) = False := eq_false (Nat.not_lt.2 c31)
                  by_cases c32 : (t147 ++ (⟨#[35]⟩ : ByteArray)).size ≤ 9223372036854775807
                  · rw [if_pos c32] at H
                    have c32b0 := eq_true c32
                    have c32b1 : decide ((t147 ++ (⟨#[35]⟩ : ByteArray)).size ≤ 9223372036854775807) = true := decide_eq_true c32
                    try have c32b2 : (9223372036854775807 < (t147 ++ (⟨#[35]⟩ : ByteArray)).size) = False := eq_false (Nat.not_lt.2 c32)
                    replace H := Option.bind_eq_some_iff.mp H
                    obtain ⟨⟨t148, t149, t150, t151, t152⟩, A330, H⟩ := H
                    replace H : (if (!(t148 == a0_0) || (!(t149 == a0_1) || (!(t150 == a0_2) || (!(t151 == a0_3))))) = true then (some false) else (if t152 = (t147.size : Int) then (laws_FnSixelBack.j2 kj21 a1 a2 a3_0 a3_1 a3_2 a3_3 a3_4) else (some false))) = some r := H
                    have A33 := Aside0.mk A330
                    clear A330
                    by_cases c34 : (!(t148 == a0_0) || (!(t149 == a0_1) || (!(t150 == a0_2) || (!(t151 == a0_3))))) = true
                    · rw [if_pos c34] at H
                      have c34b0 : (!(t148 == a0_0) || (!(t149 == a0_1) || (!(t150 == a0_2) || (!(t151 == a0_3))))) = true := c34
                      clear c34
                      (first | rw [c34b0] | (simp only [i64_w, i32_w]; rw [c34b0]) | skip)
                      obtain rfl := Option.some.inj H
                      have hnb35 := NB139_140.out
                      have hnc35 := NB140_139.out
                      have hcz36_0 : wc.cell? ⟨gb139, 0, none⟩ = some (.int .i64 a0_0) := (blk_cell BK139.out 0).trans rfl
                      have hcz36_1 : wc.cell? ⟨gb139, 1, none⟩ = some (.int .i64 a0_1) := (blk_cell BK139.out 1).trans rfl
                      have hcz36_2 : wc.cell? ⟨gb139, 2, none⟩ = some (.int .i64 a0_2) := (blk_cell BK139.out 2).trans rfl
                      have hcz36_3 : wc.cell? ⟨gb139, 3, none⟩ = some (.int .i64 a0_3) := (blk_cell BK139.out 3).trans rfl
                      have hfz36_0 := blk_frozen BK139.out 0
                      have hfz36_1 := blk_frozen BK139.out 1
                      have hfz36_2 := blk_frozen BK139.out 2
                      have hfz36_3 := blk_frozen BK139.out 3
                      go_wp2_with (first | ((with_reducible refine gate_callee (f := 13) rfl ?_); refine goesL_ (some 64) rfl rfl Tryd.func13 (by kernel_rfl) rfl #[.agg #[.int .i64 a0_0, .int .i64 a0_1, .int .i64 a0_2, .int .i64 a0_3]] rfl (by (try simp only [List.map_toArray, List.map_cons, List.map_nil]); first | done | rfl | (simp only [List.length_drop, List.length_take]; rfl) | (simp [Act.eval, *]; done) | (simp [Act.eval, *]; unfold wrap64; omega)) ?_; (with_reducible refine (impl_WriteRaster.calls a0_0 a0_1 a0_2 a0_3 t147 _ ?side1 A30.out).mono ?_); (case side1 => exact HLD.out.below (by repeat (first | (with_reducible first | exact HB.out | apply below_alloc | apply Go.Proofs.YtjicpadeplminaaDoor.Ext.below_bytes | apply pw_below_drewN | apply below_drew1 | refine below_set ?_ GE139.out | refine below_set ?_ GE140.out) | exact HB.out))); rintro e w37 ⟨rfl, hb⟩; refine ⟨_, rfl, ?_⟩; have n0_ := Aside0.mk (blk_below (g := gb139) (o := .cells #[.int .i64 a0_0, .int .i64 a0_1, .int .i64 a0_2, .int .i64 a0_3] 33 (0, 0)) (by (with_reducible repeat (first | refine blk_drewN ?_ _ | refine blk_drew ?_ | refine blk_alloc ?_ _ | refine Go.Proofs.YtjicpadeplminaaDoor.Back.blk_bytes ?_)); exact BK139.out) hb); have n1_ := Aside0.mk (blk_below (g := gb140) (o := .cells #[.int .i64 a3_0, .int .i64 a3_1, .int .i64 a3_2, .int .i64 a3_3, .int .i64 a3_4] 23 (0, 0)) (by (with_reducible repeat (first | refine blk_drewN ?_ _ | refine blk_drew ?_ | refine blk_alloc ?_ _ | refine Go.Proofs.YtjicpadeplminaaDoor.Back.blk_bytes ?_)); exact BK140.out) hb); have n2_ := Aside0.mk (below_step (by repeat (first | (with_reducible first | exact HB.out | apply below_alloc | apply Go.Proofs.YtjicpadeplminaaDoor.Ext.below_bytes | apply pw_below_drewN | apply below_drew1 | refine below_set ?_ GE139.out | refine below_set ?_ GE140.out) | exact HB.out)) hb); clear BK139; clear BK140; clear HB; have BK139 := n0_; have BK140 := n1_; have HB := n2_; clear n0_ n1_ n2_; (try clear hb); (try clear hb2); (try clear hk); (try clear hi)) | (go_at_call 15; (with_reducible refine Go.Proofs.YtjicpadeplminaaDoor.Back.calls_len (m := (bytesOf (t147 ++ (⟨#[35]⟩ : ByteArray))).length) (k := ((t147 ++ (⟨#[35]⟩ : ByteArray))).size) (bytesOf_length _) (Go.Proofs.YtjicpadeplminaaDoor.Back.size_one _ _) ?_); (refine (impl_DecodeRaster.calls _ _ (bytesOf (t147 ++ (⟨#[35]⟩ : ByteArray))) t148 t149 t150 t151 t152 _ ?side1 ?side2 A33.out).mono ?_); (case side1 => exact Go.Proofs.YtjicpadeplminaaDoor.Ext.C_bytes _ _ (t147 ++ (⟨#[35]⟩ : ByteArray)) (of_decide_eq_true (by first | (with_reducible assumption) | assumption))); (case side2 => exact Go.Proofs.YtjicpadeplminaaDoor.Back.bytes_room_at _ _ _ (Go.Proofs.YtjicpadeplminaaDoor.Back.size_one _ _)); rintro e w38 ⟨rfl, hb⟩; have n0_ := Aside0.mk (blk_below (g := gb139) (o := .cells #[.int .i64 a0_0, .int .i64 a0_1, .int .i64 a0_2, .int .i64 a0_3] 33 (0, 0)) (by (with_reducible repeat (first | refine blk_drewN ?_ _ | refine blk_drew ?_ | refine blk_alloc ?_ _ | refine Go.Proofs.YtjicpadeplminaaDoor.Back.blk_bytes ?_)); exact BK139.out) hb); have n1_ := Aside0.mk (blk_below (g := gb140) (o := .cells #[.int .i64 a3_0, .int .i64 a3_1, .int .i64 a3_2, .int .i64 a3_3, .int .i64 a3_4] 23 (0, 0)) (by (with_reducible repeat (first | refine blk_drewN ?_ _ | refine blk_drew ?_ | refine blk_alloc ?_ _ | refine Go.Proofs.YtjicpadeplminaaDoor.Back.blk_bytes ?_)); exact BK140.out) hb); have n2_ := Aside0.mk (below_step (by repeat (first | (with_reducible first | exact HB.out | apply below_alloc | apply Go.Proofs.YtjicpadeplminaaDoor.Ext.below_bytes | apply pw_below_drewN | apply below_drew1 | refine below_set ?_ GE139.out | refine below_set ?_ GE140.out) | exact HB.out)) hb); clear BK139; clear BK140; clear HB; have BK139 := n0_; have BK140 := n1_; have HB := n2_; clear n0_ n1_ n2_; (try clear hb); (try clear hb2); (try clear hk); (try clear hi)) | ((with_reducible refine gate_dst (N := 12) rfl ?_); (try (refine gate_guard (by rfl) ?_; dsimp only)); refine box_event ?hg (N := 12) ?hd (cs := #[.int .i64 0, .int .i64 0, .int .i64 0, .int .i64 0]) (t := 33) ?hr ?_; (case hd => rfl); (case hg => rfl); (case hr => first | (go_simp; done) | (go_simp; rfl)); intro gb153 hg w39 hbox hb; have n0_ := Aside0.mk (blk_below (g := gb139) (o := .cells #[.int .i64 a0_0, .int .i64 a0_1, .int .i64 a0_2, .int .i64 a0_3] 33 (0, 0)) (by (with_reducible repeat (first | refine blk_drewN ?_ _ | refine blk_drew ?_ | refine blk_alloc ?_ _ | refine Go.Proofs.YtjicpadeplminaaDoor.Back.blk_bytes ?_)); exact BK139.out) hb); have n1_ := Aside0.mk (blk_below (g := gb140) (o := .cells #[.int .i64 a3_0, .int .i64 a3_1, .int .i64 a3_2, .int .i64 a3_3, .int .i64 a3_4] 23 (0, 0)) (by (with_reducible repeat (first | refine blk_drewN ?_ _ | refine blk_drew ?_ | refine blk_alloc ?_ _ | refine Go.Proofs.YtjicpadeplminaaDoor.Back.blk_bytes ?_)); exact BK140.out) hb); have n2_ := Aside0.mk (below_step (by repeat (first | (with_reducible first | exact HB.out | apply below_alloc | apply Go.Proofs.YtjicpadeplminaaDoor.Ext.below_bytes | apply pw_below_drewN | apply below_drew1 | refine below_set ?_ GE139.out | refine below_set ?_ GE140.out) | exact HB.out)) hb); have n3_ := Aside0.mk (hbox); have n4_ := Aside0.mk ((by rw [hg]; exact (below_size (by repeat (first | (with_reducible first | exact HB.out | apply below_alloc | apply Go.Proofs.YtjicpadeplminaaDoor.Ext.below_bytes | apply pw_below_drewN | apply below_drew1 | refine below_set ?_ GE139.out | refine below_set ?_ GE140.out) | exact HB.out))) : w.heap.size ≤ gb153)); have n5_ := Aside0.mk ((by rw [hg]; exact (below_size (by repeat (first | (with_reducible first | exact HB.out | apply below_alloc | apply Go.Proofs.YtjicpadeplminaaDoor.Ext.below_bytes | apply pw_below_drewN | apply below_drew1 | refine below_set ?_ GE139.out | refine below_set ?_ GE140.out) | exact HB.out))) : w.heap.size ≤ gb153)); have n6_ := Aside0.mk ((by rw [hg]; exact Nat.ne_of_lt (blk_lt (g := gb139) (o := .cells #[.int .i64 a0_0, .int .i64 a0_1, .int .i64 a0_2, .int .i64 a0_3] 33 (0, 0)) (by (with_reducible repeat (first | refine blk_drewN ?_ _ | refine blk_drew ?_ | refine blk_alloc ?_ _ | refine Go.Proofs.YtjicpadeplminaaDoor.Back.blk_bytes ?_)); exact BK139.out)) : gb139 ≠ gb153)); have n7_ := Aside0.mk ((by rw [hg]; exact Nat.ne_of_gt (blk_lt (g := gb139) (o := .cells #[.int .i64 a0_0, .int .i64 a0_1, .int .i64 a0_2, .int .i64 a0_3] 33 (0, 0)) (by (with_reducible repeat (first | refine blk_drewN ?_ _ | refine blk_drew ?_ | refine blk_alloc ?_ _ | refine Go.Proofs.YtjicpadeplminaaDoor.Back.blk_bytes ?_)); exact BK139.out)) : gb153 ≠ gb139)); have n8_ := Aside0.mk ((by rw [hg]; exact Nat.ne_of_lt (blk_lt (g := gb140) (o := .cells #[.int .i64 a3_0, .int .i64 a3_1, .int .i64 a3_2, .int .i64 a3_3, .int .i64 a3_4] 23 (0, 0)) (by (with_reducible repeat (first | refine blk_drewN ?_ _ | refine blk_drew ?_ | refine blk_alloc ?_ _ | refine Go.Proofs.YtjicpadeplminaaDoor.Back.blk_bytes ?_)); exact BK140.out)) : gb140 ≠ gb153)); have n9_ := Aside0.mk ((by rw [hg]; exact Nat.ne_of_gt (blk_lt (g := gb140) (o := .cells #[.int .i64 a3_0, .int .i64 a3_1, .int .i64 a3_2, .int .i64 a3_3, .int .i64 a3_4] 23 (0, 0)) (by (with_reducible repeat (first | refine blk_drewN ?_ _ | refine blk_drew ?_ | refine blk_alloc ?_ _ | refine Go.Proofs.YtjicpadeplminaaDoor.Back.blk_bytes ?_)); exact BK140.out)) : gb153 ≠ gb140)); clear BK139; clear BK140; clear HB; have BK139 := n0_; have BK140 := n1_; have HB := n2_; have BK153 := n3_; have GW153 := n4_; have GE153 := n5_; have NB139_153 := n6_; have NB153_139 := n7_; have NB140_153 := n8_; have NB153_140 := n9_; clear n0_ n1_ n2_ n3_ n4_ n5_ n6_ n7_ n8_ n9_; clear hb hbox hg; have hnb40 := NB153_139.out; have hnc40 := NB139_153.out; have hnb41 := NB153_140.out; have hnc41 := NB140_153.out; have hcz42_0 : w39.cell? ⟨gb153, 0, none⟩ = some (.int .i64 0) := (blk_cell BK153.out 0).trans rfl; have hcz42_1 : w39.cell? ⟨gb153, 1, none⟩ = some (.int .i64 0) := (blk_cell BK153.out 1).trans rfl; have hcz42_2 : w39.cell? ⟨gb153, 2, none⟩ = some (.int .i64 0) := (blk_cell BK153.out 2).trans rfl; have hcz42_3 : w39.cell? ⟨gb153, 3, none⟩ = some (.int .i64 0) := (blk_cell BK153.out 3).trans rfl; have hfz42_0 := blk_frozen BK153.out 0; have hfz42_1 := blk_frozen BK153.out 1; have hfz42_2 := blk_frozen BK153.out 2; have hfz42_3 := blk_frozen BK153.out 3; have hcz43_0 : w39.cell? ⟨gb139, 0, none⟩ = some (.int .i64 a0_0) := (blk_cell BK139.out 0).trans rfl; have hcz43_1 : w39.cell? ⟨gb139, 1, none⟩ = some (.int .i64 a0_1) := (blk_cell BK139.out 1).trans rfl; have hcz43_2 : w39.cell? ⟨gb139, 2, none⟩ = some (.int .i64 a0_2) := (blk_cell BK139.out 2).trans rfl; have hcz43_3 : w39.cell? ⟨gb139, 3, none⟩ = some (.int .i64 a0_3) := (blk_cell BK139.out 3).trans rfl; have hfz43_0 := blk_frozen BK139.out 0; have hfz43_1 := blk_frozen BK139.out 1; have hfz43_2 := blk_frozen BK139.out 2; have hfz43_3 := blk_frozen BK139.out 3))
                      go_ret
                      exact ⟨by first | rfl | (simp [errW_none, errW_some] <;> rfl) | (simp [*, errW_none, errW_some] <;> rfl), by repeat (first | (with_reducible first | exact HB.out | apply below_alloc | apply Go.Proofs.YtjicpadeplminaaDoor.Ext.below_bytes | apply pw_below_drewN | apply below_drew1 | refine below_set ?_ GE139.out | refine below_set ?_ GE140.out | refine below_set ?_ GE153.out) | exact HB.out)⟩
                    · rw [if_neg c34] at H
                      have c34b0 : (!(t148 == a0_0) || (!(t149 == a0_1) || (!(t150 == a0_2) || (!(t151 == a0_3))))) = false := by simpa using c34
                      clear c34
                      (first | rw [c34b0] | (simp only [i64_w, i32_w]; rw [c34b0]) | skip)
                      by_cases c44 : t152 = (t147.size : Int)
                      · rw [if_pos c44] at H
                        have c44b0 : (t152 == (t147.size : Int)) = true := beq_iff_eq.mpr c44
                        have c44b1 : (t152 != (t147.size : Int)) = false := bne_eq_false_iff_eq.mpr c44
                        clear c44
                        have H' := Aside0.mk H
                        clear H
                        have hnb45 := NB139_140.out
                        have hnc45 := NB140_139.out
                        have hcz46_0 : wc.cell? ⟨gb139, 0, none⟩ = some (.int .i64 a0_0) := (blk_cell BK139.out 0).trans rfl
                        have hcz46_1 : wc.cell? ⟨gb139, 1, none⟩ = some (.int .i64 a0_1) := (blk_cell BK139.out 1).trans rfl
                        have hcz46_2 : wc.cell? ⟨gb139, 2, none⟩ = some (.int .i64 a0_2) := (blk_cell BK139.out 2).trans rfl
                        have hcz46_3 : wc.cell? ⟨gb139, 3, none⟩ = some (.int .i64 a0_3) := (blk_cell BK139.out 3).trans rfl
                        have hfz46_0 := blk_frozen BK139.out 0
                        have hfz46_1 := blk_frozen BK139.out 1
                        have hfz46_2 := blk_frozen BK139.out 2
                        have hfz46_3 := blk_frozen BK139.out 3
                        go_wp2_with (first | ((with_reducible refine gate_callee (f := 13) rfl ?_); refine goesL_ (some 64) rfl rfl Tryd.func13 (by kernel_rfl) rfl #[.agg #[.int .i64 a0_0, .int .i64 a0_1, .int .i64 a0_2, .int .i64 a0_3]] rfl (by (try simp only [List.map_toArray, List.map_cons, List.map_nil]); first | done | rfl | (simp only [List.length_drop, List.length_take]; rfl) | (simp [Act.eval, *]; done) | (simp [Act.eval, *]; unfold wrap64; omega)) ?_; (with_reducible refine (impl_WriteRaster.calls a0_0 a0_1 a0_2 a0_3 t147 _ ?side1 A30.out).mono ?_); (case side1 => exact HLD.out.below (by repeat (first | (with_reducible first | exact HB.out | apply below_alloc | apply Go.Proofs.YtjicpadeplminaaDoor.Ext.below_bytes | apply pw_below_drewN | apply below_drew1 | refine below_set ?_ GE139.out | refine below_set ?_ GE140.out) | exact HB.out))); rintro e w47 ⟨rfl, hb⟩; refine ⟨_, rfl, ?_⟩; have n0_ := Aside0.mk (blk_below (g := gb139) (o := .cells #[.int .i64 a0_0, .int .i64 a0_1, .int .i64 a0_2, .int .i64 a0_3] 33 (0, 0)) (by (with_reducible repeat (first | refine blk_drewN ?_ _ | refine blk_drew ?_ | refine blk_alloc ?_ _ | refine Go.Proofs.YtjicpadeplminaaDoor.Back.blk_bytes ?_)); exact BK139.out) hb); have n1_ := Aside0.mk (blk_below (g := gb140) (o := .cells #[.int .i64 a3_0, .int .i64 a3_1, .int .i64 a3_2, .int .i64 a3_3, .int .i64 a3_4] 23 (0, 0)) (by (with_reducible repeat (first | refine blk_drewN ?_ _ | refine blk_drew ?_ | refine blk_alloc ?_ _ | refine Go.Proofs.YtjicpadeplminaaDoor.Back.blk_bytes ?_)); exact BK140.out) hb); have n2_ := Aside0.mk (below_step (by repeat (first | (with_reducible first | exact HB.out | apply below_alloc | apply Go.Proofs.YtjicpadeplminaaDoor.Ext.below_bytes | apply pw_below_drewN | apply below_drew1 | refine below_set ?_ GE139.out | refine below_set ?_ GE140.out) | exact HB.out)) hb); clear BK139; clear BK140; clear HB; have BK139 := n0_; have BK140 := n1_; have HB := n2_; clear n0_ n1_ n2_; (try clear hb); (try clear hb2); (try clear hk); (try clear hi)) | (go_at_call 15; (with_reducible refine Go.Proofs.YtjicpadeplminaaDoor.Back.calls_len (m := (bytesOf (t147 ++ (⟨#[35]⟩ : ByteArray))).length) (k := ((t147 ++ (⟨#[35]⟩ : ByteArray))).size) (bytesOf_length _) (Go.Proofs.YtjicpadeplminaaDoor.Back.size_one _ _) ?_); (refine (impl_DecodeRaster.calls _ _ (bytesOf (t147 ++ (⟨#[35]⟩ : ByteArray))) t148 t149 t150 t151 t152 _ ?side1 ?side2 A33.out).mono ?_); (case side1 => exact Go.Proofs.YtjicpadeplminaaDoor.Ext.C_bytes _ _ (t147 ++ (⟨#[35]⟩ : ByteArray)) (of_decide_eq_true (by first | (with_reducible assumption) | assumption))); (case side2 => exact Go.Proofs.YtjicpadeplminaaDoor.Back.bytes_room_at _ _ _ (Go.Proofs.YtjicpadeplminaaDoor.Back.size_one _ _)); rintro e w48 ⟨rfl, hb⟩; have n0_ := Aside0.mk (blk_below (g := gb139) (o := .cells #[.int .i64 a0_0, .int .i64 a0_1, .int .i64 a0_2, .int .i64 a0_3] 33 (0, 0)) (by (with_reducible repeat (first | refine blk_drewN ?_ _ | refine blk_drew ?_ | refine blk_alloc ?_ _ | refine Go.Proofs.YtjicpadeplminaaDoor.Back.blk_bytes ?_)); exact BK139.out) hb); have n1_ := Aside0.mk (blk_below (g := gb140) (o := .cells #[.int .i64 a3_0, .int .i64 a3_1, .int .i64 a3_2, .int .i64 a3_3, .int .i64 a3_4] 23 (0, 0)) (by (with_reducible repeat (first | refine blk_drewN ?_ _ | refine blk_drew ?_ | refine blk_alloc ?_ _ | refine Go.Proofs.YtjicpadeplminaaDoor.Back.blk_bytes ?_)); exact BK140.out) hb); have n2_ := Aside0.mk (below_step (by repeat (first | (with_reducible first | exact HB.out | apply below_alloc | apply Go.Proofs.YtjicpadeplminaaDoor.Ext.below_bytes | apply pw_below_drewN | apply below_drew1 | refine below_set ?_ GE139.out | refine below_set ?_ GE140.out) | exact HB.out)) hb); clear BK139; clear BK140; clear HB; have BK139 := n0_; have BK140 := n1_; have HB := n2_; clear n0_ n1_ n2_; (try clear hb); (try clear hb2); (try clear hk); (try clear hi)) | ((with_reducible refine gate_dst (N := 12) rfl ?_); (try (refine gate_guard (by rfl) ?_; dsimp only)); refine box_event ?hg (N := 12) ?hd (cs := #[.int .i64 0, .int .i64 0, .int .i64 0, .int .i64 0]) (t := 33) ?hr ?_; (case hd => rfl); (case hg => rfl); (case hr => first | (go_simp; done) | (go_simp; rfl)); intro gb153 hg w49 hbox hb; have n0_ := Aside0.mk (blk_below (g := gb139) (o := .cells #[.int .i64 a0_0, .int .i64 a0_1, .int .i64 a0_2, .int .i64 a0_3] 33 (0, 0)) (by (with_reducible repeat (first | refine blk_drewN ?_ _ | refine blk_drew ?_ | refine blk_alloc ?_ _ | refine Go.Proofs.YtjicpadeplminaaDoor.Back.blk_bytes ?_)); exact BK139.out) hb); have n1_ := Aside0.mk (blk_below (g := gb140) (o := .cells #[.int .i64 a3_0, .int .i64 a3_1, .int .i64 a3_2, .int .i64 a3_3, .int .i64 a3_4] 23 (0, 0)) (by (with_reducible repeat (first | refine blk_drewN ?_ _ | refine blk_drew ?_ | refine blk_alloc ?_ _ | refine Go.Proofs.YtjicpadeplminaaDoor.Back.blk_bytes ?_)); exact BK140.out) hb); have n2_ := Aside0.mk (below_step (by repeat (first | (with_reducible first | exact HB.out | apply below_alloc | apply Go.Proofs.YtjicpadeplminaaDoor.Ext.below_bytes | apply pw_below_drewN | apply below_drew1 | refine below_set ?_ GE139.out | refine below_set ?_ GE140.out) | exact HB.out)) hb); have n3_ := Aside0.mk (hbox); have n4_ := Aside0.mk ((by rw [hg]; exact (below_size (by repeat (first | (with_reducible first | exact HB.out | apply below_alloc | apply Go.Proofs.YtjicpadeplminaaDoor.Ext.below_bytes | apply pw_below_drewN | apply below_drew1 | refine below_set ?_ GE139.out | refine below_set ?_ GE140.out) | exact HB.out))) : w.heap.size ≤ gb153)); have n5_ := Aside0.mk ((by rw [hg]; exact (below_size (by repeat (first | (with_reducible first | exact HB.out | apply below_alloc | apply Go.Proofs.YtjicpadeplminaaDoor.Ext.below_bytes | apply pw_below_drewN | apply below_drew1 | refine below_set ?_ GE139.out | refine below_set ?_ GE140.out) | exact HB.out))) : w.heap.size ≤ gb153)); have n6_ := Aside0.mk ((by rw [hg]; exact Nat.ne_of_lt (blk_lt (g := gb139) (o := .cells #[.int .i64 a0_0, .int .i64 a0_1, .int .i64 a0_2, .int .i64 a0_3] 33 (0, 0)) (by (with_reducible repeat (first | refine blk_drewN ?_ _ | refine blk_drew ?_ | refine blk_alloc ?_ _ | refine Go.Proofs.YtjicpadeplminaaDoor.Back.blk_bytes ?_)); exact BK139.out)) : gb139 ≠ gb153)); have n7_ := Aside0.mk ((by rw [hg]; exact Nat.ne_of_gt (blk_lt (g := gb139) (o := .cells #[.int .i64 a0_0, .int .i64 a0_1, .int .i64 a0_2, .int .i64 a0_3] 33 (0, 0)) (by (with_reducible repeat (first | refine blk_drewN ?_ _ | refine blk_drew ?_ | refine blk_alloc ?_ _ | refine Go.Proofs.YtjicpadeplminaaDoor.Back.blk_bytes ?_)); exact BK139.out)) : gb153 ≠ gb139)); have n8_ := Aside0.mk ((by rw [hg]; exact Nat.ne_of_lt (blk_lt (g := gb140) (o := .cells #[.int .i64 a3_0, .int .i64 a3_1, .int .i64 a3_2, .int .i64 a3_3, .int .i64 a3_4] 23 (0, 0)) (by (with_reducible repeat (first | refine blk_drewN ?_ _ | refine blk_drew ?_ | refine blk_alloc ?_ _ | refine Go.Proofs.YtjicpadeplminaaDoor.Back.blk_bytes ?_)); exact BK140.out)) : gb140 ≠ gb153)); have n9_ := Aside0.mk ((by rw [hg]; exact Nat.ne_of_gt (blk_lt (g := gb140) (o := .cells #[.int .i64 a3_0, .int .i64 a3_1, .int .i64 a3_2, .int .i64 a3_3, .int .i64 a3_4] 23 (0, 0)) (by (with_reducible repeat (first | refine blk_drewN ?_ _ | refine blk_drew ?_ | refine blk_alloc ?_ _ | refine Go.Proofs.YtjicpadeplminaaDoor.Back.blk_bytes ?_)); exact BK140.out)) : gb153 ≠ gb140)); clear BK139; clear BK140; clear HB; have BK139 := n0_; have BK140 := n1_; have HB := n2_; have BK153 := n3_; have GW153 := n4_; have GE153 := n5_; have NB139_153 := n6_; have NB153_139 := n7_; have NB140_153 := n8_; have NB153_140 := n9_; clear n0_ n1_ n2_ n3_ n4_ n5_ n6_ n7_ n8_ n9_; clear hb hbox hg; have hnb50 := NB153_139.out; have hnc50 := NB139_153.out; have hnb51 := NB153_140.out; have hnc51 := NB140_153.out; have hcz52_0 : w49.cell? ⟨gb153, 0, none⟩ = some (.int .i64 0) := (blk_cell BK153.out 0).trans rfl; have hcz52_1 : w49.cell? ⟨gb153, 1, none⟩ = some (.int .i64 0) := (blk_cell BK153.out 1).trans rfl; have hcz52_2 : w49.cell? ⟨gb153, 2, none⟩ = some (.int .i64 0) := (blk_cell BK153.out 2).trans rfl; have hcz52_3 : w49.cell? ⟨gb153, 3, none⟩ = some (.int .i64 0) := (blk_cell BK153.out 3).trans rfl; have hfz52_0 := blk_frozen BK153.out 0; have hfz52_1 := blk_frozen BK153.out 1; have hfz52_2 := blk_frozen BK153.out 2; have hfz52_3 := blk_frozen BK153.out 3; have hcz53_0 : w49.cell? ⟨gb139, 0, none⟩ = some (.int .i64 a0_0) := (blk_cell BK139.out 0).trans rfl; have hcz53_1 : w49.cell? ⟨gb139, 1, none⟩ = some (.int .i64 a0_1) := (blk_cell BK139.out 1).trans rfl; have hcz53_2 : w49.cell? ⟨gb139, 2, none⟩ = some (.int .i64 a0_2) := (blk_cell BK139.out 2).trans rfl; have hcz53_3 : w49.cell? ⟨gb139, 3, none⟩ = some (.int .i64 a0_3) := (blk_cell BK139.out 3).trans rfl; have hfz53_0 := blk_frozen BK139.out 0; have hfz53_1 := blk_frozen BK139.out 1; have hfz53_2 := blk_frozen BK139.out 2; have hfz53_3 := blk_frozen BK139.out 3))
                        go_meet
                        case rel => exact ⟨_, H', ⟨by have := HK1.out; have := HJ21.out; first | omega | exact Nat.le_refl _⟩, ⟨by (with_reducible repeat (first | refine blk_drewN ?_ _ | refine blk_drew ?_ | refine blk_alloc ?_ _ | refine Go.Proofs.YtjicpadeplminaaDoor.Back.blk_bytes ?_)); refine blk_far ?_ NB139_153.out _; (with_reducible repeat (first | refine blk_drewN ?_ _ | refine blk_drew ?_ | refine blk_alloc ?_ _ | refine Go.Proofs.YtjicpadeplminaaDoor.Back.blk_bytes ?_)); refine blk_far ?_ NB139_153.out _; (with_reducible repeat (first | refine blk_drewN ?_ _ | refine blk_drew ?_ | refine blk_alloc ?_ _ | refine Go.Proofs.YtjicpadeplminaaDoor.Back.blk_bytes ?_)); refine blk_far ?_ NB139_153.out _; (with_reducible repeat (first | refine blk_drewN ?_ _ | refine blk_drew ?_ | refine blk_alloc ?_ _ | refine Go.Proofs.YtjicpadeplminaaDoor.Back.blk_bytes ?_)); refine blk_far ?_ NB139_153.out _; (with_reducible repeat (first | refine blk_drewN ?_ _ | refine blk_drew ?_ | refine blk_alloc ?_ _ | refine Go.Proofs.YtjicpadeplminaaDoor.Back.blk_bytes ?_)); exact BK139.out⟩, ⟨by (with_reducible repeat (first | refine blk_drewN ?_ _ | refine blk_drew ?_ | refine blk_alloc ?_ _ | refine Go.Proofs.YtjicpadeplminaaDoor.Back.blk_bytes ?_)); refine blk_far ?_ NB140_153.out _; (with_reducible repeat (first | refine blk_drewN ?_ _ | refine blk_drew ?_ | refine blk_alloc ?_ _ | refine Go.Proofs.YtjicpadeplminaaDoor.Back.blk_bytes ?_)); refine blk_far ?_ NB140_153.out _; (with_reducible repeat (first | refine blk_drewN ?_ _ | refine blk_drew ?_ | refine blk_alloc ?_ _ | refine Go.Proofs.YtjicpadeplminaaDoor.Back.blk_bytes ?_)); refine blk_far ?_ NB140_153.out _; (with_reducible repeat (first | refine blk_drewN ?_ _ | refine blk_drew ?_ | refine blk_alloc ?_ _ | refine Go.Proofs.YtjicpadeplminaaDoor.Back.blk_bytes ?_)); refine blk_far ?_ NB140_153.out _; (with_reducible repeat (first | refine blk_drewN ?_ _ | refine blk_drew ?_ | refine blk_alloc ?_ _ | refine Go.Proofs.YtjicpadeplminaaDoor.Back.blk_bytes ?_)); exact BK140.out⟩, ⟨by repeat (first | (with_reducible first | exact HB.out | apply below_alloc | apply Go.Proofs.YtjicpadeplminaaDoor.Ext.below_bytes | apply pw_below_drewN | apply below_drew1 | refine below_set ?_ GE139.out | refine below_set ?_ GE140.out | refine below_set ?_ GE153.out) | exact HB.out)⟩⟩
                      · rw [if_neg c44] at H
                        have c44b0 : (t152 == (t147.size : Int)) = false := beq_eq_false_iff_ne.mpr c44
                        have c44b1 : (t152 != (t147.size : Int)) = true := bne_iff_ne.mpr c44
                        obtain rfl := Option.some.inj H
                        have hnb54 := NB139_140.out
                        have hnc54 := NB140_139.out
                        have hcz55_0 : wc.cell? ⟨gb139, 0, none⟩ = some (.int .i64 a0_0) := (blk_cell BK139.out 0).trans rfl
                        have hcz55_1 : wc.cell? ⟨gb139, 1, none⟩ = some (.int .i64 a0_1) := (blk_cell BK139.out 1).trans rfl
                        have hcz55_2 : wc.cell? ⟨gb139, 2, none⟩ = some (.int .i64 a0_2) := (blk_cell BK139.out 2).trans rfl
                        have hcz55_3 : wc.cell? ⟨gb139, 3, none⟩ = some (.int .i64 a0_3) := (blk_cell BK139.out 3).trans rfl
                        have hfz55_0 := blk_frozen BK139.out 0
                        have hfz55_1 := blk_frozen BK139.out 1
                        have hfz55_2 := blk_frozen BK139.out 2
                        have hfz55_3 := blk_frozen BK139.out 3
                        go_wp2_with (first | ((with_reducible refine gate_callee (f := 13) rfl ?_); refine goesL_ (some 64) rfl rfl Tryd.func13 (by kernel_rfl) rfl #[.agg #[.int .i64 a0_0, .int .i64 a0_1, .int .i64 a0_2, .int .i64 a0_3]] rfl (by (try simp only [List.map_toArray, List.map_cons, List.map_nil]); first | done | rfl | (simp only [List.length_drop, List.length_take]; rfl) | (simp [Act.eval, *]; done) | (simp [Act.eval, *]; unfold wrap64; omega)) ?_; (with_reducible refine (impl_WriteRaster.calls a0_0 a0_1 a0_2 a0_3 t147 _ ?side1 A30.out).mono ?_); (case side1 => exact HLD.out.below (by repeat (first | (with_reducible first | exact HB.out | apply below_alloc | apply Go.Proofs.YtjicpadeplminaaDoor.Ext.below_bytes | apply pw_below_drewN | apply below_drew1 | refine below_set ?_ GE139.out | refine below_set ?_ GE140.out) | exact HB.out))); rintro e w56 ⟨rfl, hb⟩; refine ⟨_, rfl, ?_⟩; have n0_ := Aside0.mk (blk_below (g := gb139) (o := .cells #[.int .i64 a0_0, .int .i64 a0_1, .int .i64 a0_2, .int .i64 a0_3] 33 (0, 0)) (by (with_reducible repeat (first | refine blk_drewN ?_ _ | refine blk_drew ?_ | refine blk_alloc ?_ _ | refine Go.Proofs.YtjicpadeplminaaDoor.Back.blk_bytes ?_)); exact BK139.out) hb); have n1_ := Aside0.mk (blk_below (g := gb140) (o := .cells #[.int .i64 a3_0, .int .i64 a3_1, .int .i64 a3_2, .int .i64 a3_3, .int .i64 a3_4] 23 (0, 0)) (by (with_reducible repeat (first | refine blk_drewN ?_ _ | refine blk_drew ?_ | refine blk_alloc ?_ _ | refine Go.Proofs.YtjicpadeplminaaDoor.Back.blk_bytes ?_)); exact BK140.out) hb); have n2_ := Aside0.mk (below_step (by repeat (first | (with_reducible first | exact HB.out | apply below_alloc | apply Go.Proofs.YtjicpadeplminaaDoor.Ext.below_bytes | apply pw_below_drewN | apply below_drew1 | refine below_set ?_ GE139.out | refine below_set ?_ GE140.out) | exact HB.out)) hb); clear BK139; clear BK140; clear HB; have BK139 := n0_; have BK140 := n1_; have HB := n2_; clear n0_ n1_ n2_; (try clear hb); (try clear hb2); (try clear hk); (try clear hi)) | (go_at_call 15; (with_reducible refine Go.Proofs.YtjicpadeplminaaDoor.Back.calls_len (m := (bytesOf (t147 ++ (⟨#[35]⟩ : ByteArray))).length) (k := ((t147 ++ (⟨#[35]⟩ : ByteArray))).size) (bytesOf_length _) (Go.Proofs.YtjicpadeplminaaDoor.Back.size_one _ _) ?_); (refine (impl_DecodeRaster.calls _ _ (bytesOf (t147 ++ (⟨#[35]⟩ : ByteArray))) t148 t149 t150 t151 t152 _ ?side1 ?side2 A33.out).mono ?_); (case side1 => exact Go.Proofs.YtjicpadeplminaaDoor.Ext.C_bytes _ _ (t147 ++ (⟨#[35]⟩ : ByteArray)) (of_decide_eq_true (by first | (with_reducible assumption) | assumption))); (case side2 => exact Go.Proofs.YtjicpadeplminaaDoor.Back.bytes_room_at _ _ _ (Go.Proofs.YtjicpadeplminaaDoor.Back.size_one _ _)); rintro e w57 ⟨rfl, hb⟩; have n0_ := Aside0.mk (blk_below (g := gb139) (o := .cells #[.int .i64 a0_0, .int .i64 a0_1, .int .i64 a0_2, .int .i64 a0_3] 33 (0, 0)) (by (with_reducible repeat (first | refine blk_drewN ?_ _ | refine blk_drew ?_ | refine blk_alloc ?_ _ | refine Go.Proofs.YtjicpadeplminaaDoor.Back.blk_bytes ?_)); exact BK139.out) hb); have n1_ := Aside0.mk (blk_below (g := gb140) (o := .cells #[.int .i64 a3_0, .int .i64 a3_1, .int .i64 a3_2, .int .i64 a3_3, .int .i64 a3_4] 23 (0, 0)) (by (with_reducible repeat (first | refine blk_drewN ?_ _ | refine blk_drew ?_ | refine blk_alloc ?_ _ | refine Go.Proofs.YtjicpadeplminaaDoor.Back.blk_bytes ?_)); exact BK140.out) hb); have n2_ := Aside0.mk (below_step (by repeat (first | (with_reducible first | exact HB.out | apply below_alloc | apply Go.Proofs.YtjicpadeplminaaDoor.Ext.below_bytes | apply pw_below_drewN | apply below_drew1 | refine below_set ?_ GE139.out | refine below_set ?_ GE140.out) | exact HB.out)) hb); clear BK139; clear BK140; clear HB; have BK139 := n0_; have BK140 := n1_; have HB := n2_; clear n0_ n1_ n2_; (try clear hb); (try clear hb2); (try clear hk); (try clear hi)) | ((with_reducible refine gate_dst (N := 12) rfl ?_); (try (refine gate_guard (by rfl) ?_; dsimp only)); refine box_event ?hg (N := 12) ?hd (cs := #[.int .i64 0, .int .i64 0, .int .i64 0, .int .i64 0]) (t := 33) ?hr ?_; (case hd => rfl); (case hg => rfl); (case hr => first | (go_simp; done) | (go_simp; rfl)); intro gb153 hg w58 hbox hb; have n0_ := Aside0.mk (blk_below (g := gb139) (o := .cells #[.int .i64 a0_0, .int .i64 a0_1, .int .i64 a0_2, .int .i64 a0_3] 33 (0, 0)) (by (with_reducible repeat (first | refine blk_drewN ?_ _ | refine blk_drew ?_ | refine blk_alloc ?_ _ | refine Go.Proofs.YtjicpadeplminaaDoor.Back.blk_bytes ?_)); exact BK139.out) hb); have n1_ := Aside0.mk (blk_below (g := gb140) (o := .cells #[.int .i64 a3_0, .int .i64 a3_1, .int .i64 a3_2, .int .i64 a3_3, .int .i64 a3_4] 23 (0, 0)) (by (with_reducible repeat (first | refine blk_drewN ?_ _ | refine blk_drew ?_ | refine blk_alloc ?_ _ | refine Go.Proofs.YtjicpadeplminaaDoor.Back.blk_bytes ?_)); exact BK140.out) hb); have n2_ := Aside0.mk (below_step (by repeat (first | (with_reducible first | exact HB.out | apply below_alloc | apply Go.Proofs.YtjicpadeplminaaDoor.Ext.below_bytes | apply pw_below_drewN | apply below_drew1 | refine below_set ?_ GE139.out | refine below_set ?_ GE140.out) | exact HB.out)) hb); have n3_ := Aside0.mk (hbox); have n4_ := Aside0.mk ((by rw [hg]; exact (below_size (by repeat (first | (with_reducible first | exact HB.out | apply below_alloc | apply Go.Proofs.YtjicpadeplminaaDoor.Ext.below_bytes | apply pw_below_drewN | apply below_drew1 | refine below_set ?_ GE139.out | refine below_set ?_ GE140.out) | exact HB.out))) : w.heap.size ≤ gb153)); have n5_ := Aside0.mk ((by rw [hg]; exact (below_size (by repeat (first | (with_reducible first | exact HB.out | apply below_alloc | apply Go.Proofs.YtjicpadeplminaaDoor.Ext.below_bytes | apply pw_below_drewN | apply below_drew1 | refine below_set ?_ GE139.out | refine below_set ?_ GE140.out) | exact HB.out))) : w.heap.size ≤ gb153)); have n6_ := Aside0.mk ((by rw [hg]; exact Nat.ne_of_lt (blk_lt (g := gb139) (o := .cells #[.int .i64 a0_0, .int .i64 a0_1, .int .i64 a0_2, .int .i64 a0_3] 33 (0, 0)) (by (with_reducible repeat (first | refine blk_drewN ?_ _ | refine blk_drew ?_ | refine blk_alloc ?_ _ | refine Go.Proofs.YtjicpadeplminaaDoor.Back.blk_bytes ?_)); exact BK139.out)) : gb139 ≠ gb153)); have n7_ := Aside0.mk ((by rw [hg]; exact Nat.ne_of_gt (blk_lt (g := gb139) (o := .cells #[.int .i64 a0_0, .int .i64 a0_1, .int .i64 a0_2, .int .i64 a0_3] 33 (0, 0)) (by (with_reducible repeat (first | refine blk_drewN ?_ _ | refine blk_drew ?_ | refine blk_alloc ?_ _ | refine Go.Proofs.YtjicpadeplminaaDoor.Back.blk_bytes ?_)); exact BK139.out)) : gb153 ≠ gb139)); have n8_ := Aside0.mk ((by rw [hg]; exact Nat.ne_of_lt (blk_lt (g := gb140) (o := .cells #[.int .i64 a3_0, .int .i64 a3_1, .int .i64 a3_2, .int .i64 a3_3, .int .i64 a3_4] 23 (0, 0)) (by (with_reducible repeat (first | refine blk_drewN ?_ _ | refine blk_drew ?_ | refine blk_alloc ?_ _ | refine Go.Proofs.YtjicpadeplminaaDoor.Back.blk_bytes ?_)); exact BK140.out)) : gb140 ≠ gb153)); have n9_ := Aside0.mk ((by rw [hg]; exact Nat.ne_of_gt (blk_lt (g := gb140) (o := .cells #[.int .i64 a3_0, .int .i64 a3_1, .int .i64 a3_2, .int .i64 a3_3, .int .i64 a3_4] 23 (0, 0)) (by (with_reducible repeat (first | refine blk_drewN ?_ _ | refine blk_drew ?_ | refine blk_alloc ?_ _ | refine Go.Proofs.YtjicpadeplminaaDoor.Back.blk_bytes ?_)); exact BK140.out)) : gb153 ≠ gb140)); clear BK139; clear BK140; clear HB; have BK139 := n0_; have BK140 := n1_; have HB := n2_; have BK153 := n3_; have GW153 := n4_; have GE153 := n5_; have NB139_153 := n6_; have NB153_139 := n7_; have NB140_153 := n8_; have NB153_140 := n9_; clear n0_ n1_ n2_ n3_ n4_ n5_ n6_ n7_ n8_ n9_; clear hb hbox hg; have hnb59 := NB153_139.out; have hnc59 := NB139_153.out; have hnb60 := NB153_140.out; have hnc60 := NB140_153.out; have hcz61_0 : w58.cell? ⟨gb153, 0, none⟩ = some (.int .i64 0) := (blk_cell BK153.out 0).trans rfl; have hcz61_1 : w58.cell? ⟨gb153, 1, none⟩ = some (.int .i64 0) := (blk_cell BK153.out 1).trans rfl; have hcz61_2 : w58.cell? ⟨gb153, 2, none⟩ = some (.int .i64 0) := (blk_cell BK153.out 2).trans rfl; have hcz61_3 : w58.cell? ⟨gb153, 3, none⟩ = some (.int .i64 0) := (blk_cell BK153.out 3).trans rfl; have hfz61_0 := blk_frozen BK153.out 0; have hfz61_1 := blk_frozen BK153.out 1; have hfz61_2 := blk_frozen BK153.out 2; have hfz61_3 := blk_frozen BK153.out 3; have hcz62_0 : w58.cell? ⟨gb139, 0, none⟩ = some (.int .i64 a0_0) := (blk_cell BK139.out 0).trans rfl; have hcz62_1 : w58.cell? ⟨gb139, 1, none⟩ = some (.int .i64 a0_1) := (blk_cell BK139.out 1).trans rfl; have hcz62_2 : w58.cell? ⟨gb139, 2, none⟩ = some (.int .i64 a0_2) := (blk_cell BK139.out 2).trans rfl; have hcz62_3 : w58.cell? ⟨gb139, 3, none⟩ = some (.int .i64 a0_3) := (blk_cell BK139.out 3).trans rfl; have hfz62_0 := blk_frozen BK139.out 0; have hfz62_1 := blk_frozen BK139.out 1; have hfz62_2 := blk_frozen BK139.out 2; have hfz62_3 := blk_frozen BK139.out 3))
                        go_ret
                        exact ⟨by first | rfl | (simp [errW_none, errW_some] <;> rfl) | (simp [*, errW_none, errW_some] <;> rfl), by repeat (first | (with_reducible first | exact HB.out | apply below_alloc | apply Go.Proofs.YtjicpadeplminaaDoor.Ext.below_bytes | apply pw_below_drewN | apply below_drew1 | refine below_set ?_ GE139.out | refine below_set ?_ GE140.out | refine below_set ?_ GE153.out) | exact HB.out)⟩
                  · rw [if_neg c32] at H
                    exact absurd H (by simp)
                · rw [if_neg c31] at H
                  exact absurd H (by simp)
              · replace c29 := Bool.eq_false_iff.mpr c29
                subst c29
                have H1 : (laws_FnSixelBack.j2 kj21 a1 a2 a3_0 a3_1 a3_2 a3_3 a3_4) = some r := by rw [if_neg (show ¬ (false = true) by decide)] at H; exact H
                clear H
                have H := H1
                clear H1
                have H' := Aside0.mk H
                clear H
                go_wp2
                go_meet
                case rel => exact ⟨_, H', ⟨by have := HK1.out; have := HJ21.out; first | omega | exact Nat.le_refl _⟩, ⟨by (with_reducible repeat (first | refine blk_drewN ?_ _ | refine blk_drew ?_ | refine blk_alloc ?_ _ | refine Go.Proofs.YtjicpadeplminaaDoor.Back.blk_bytes ?_)); exact BK139.out⟩, ⟨by (with_reducible repeat (first | refine blk_drewN ?_ _ | refine blk_drew ?_ | refine blk_alloc ?_ _ | refine Go.Proofs.YtjicpadeplminaaDoor.Back.blk_bytes ?_)); exact BK140.out⟩, ⟨by repeat (first | (with_reducible first | exact HB.out | apply below_alloc | apply Go.Proofs.YtjicpadeplminaaDoor.Ext.below_bytes | apply pw_below_drewN | apply below_drew1 | refine below_set ?_ GE139.out | refine below_set ?_ GE140.out) | exact HB.out)⟩⟩
            case rest =>
              clear HC28
              try clear c1
              try clear p1
              try clear q1
              try clear hx1
              try clear c2
              try clear p2
              try clear c3
              try clear c4
              try clear c5
              try clear c6
              try clear p6
              try clear c7
              try clear c9
              try clear c13
              try clear c13b0
              try clear c14
              try clear c14b0
              try clear p14
              try clear q14
              try clear hx14
              try clear c15
              try clear c15b0
              try clear c16
              try clear c16b0
              try clear c19
              try clear c19b0
              try clear c23
              try clear c23b0
              try clear c24
              try clear c26
              try clear c29
              try clear c31
              try clear c31b0
              try clear c31b1
              try clear c31b2
              try clear c32
              try clear c32b0
              try clear c32b1
              try clear c32b2
              try clear c34
              try clear c34b0
              try clear c35
              try clear c40
              try clear c41
              try clear c44
              try clear c44b0
              try clear c44b1
              try clear c45
              try clear c50
              try clear c51
              try clear c54
              try clear c59
              try clear c60
              try clear hcz25_0
              try clear hcz25_1
              try clear hcz25_2
              try clear hcz25_3
              try clear hcz27_0
              try clear hcz27_1
              try clear hcz27_2
              try clear hcz27_3
              try clear hcz36_0
              try clear hcz36_1
              try clear hcz36_2
              try clear hcz36_3
              try clear hcz42_0
              try clear hcz42_1
              try clear hcz42_2
              try clear hcz42_3
              try clear hcz43_0
              try clear hcz43_1
              try clear hcz43_2
              try clear hcz43_3
              try clear hcz46_0
              try clear hcz46_1
              try clear hcz46_2
              try clear hcz46_3
              try clear hcz52_0
              try clear hcz52_1
              try clear hcz52_2
              try clear hcz52_3
              try clear hcz53_0
              try clear hcz53_1
              try clear hcz53_2
              try clear hcz53_3
              try clear hcz55_0
              try clear hcz55_1
              try clear hcz55_2
              try clear hcz55_3
              try clear hcz61_0
              try clear hcz61_1
              try clear hcz61_2
              try clear hcz61_3
              try clear hcz62_0
              try clear hcz62_1
              try clear hcz62_2
              try clear hcz62_3
              try clear hcz8_0
              try clear hcz8_1
              try clear hcz8_2
              try clear hcz8_3
              try clear hcz9_0
              try clear hcz9_1
              try clear hcz9_2
              try clear hcz9_3
              try clear hcz9_4
              try clear hfz25_0
              try clear hfz25_1
              try clear hfz25_2
              try clear hfz25_3
              try clear hfz27_0
              try clear hfz27_1
              try clear hfz27_2
              try clear hfz27_3
              try clear hfz36_0
              try clear hfz36_1
              try clear hfz36_2
              try clear hfz36_3
              try clear hfz42_0
              try clear hfz42_1
              try clear hfz42_2
              try clear hfz42_3
              try clear hfz43_0
              try clear hfz43_1
              try clear hfz43_2
              try clear hfz43_3
              try clear hfz46_0
              try clear hfz46_1
              try clear hfz46_2
              try clear hfz46_3
              try clear hfz52_0
              try clear hfz52_1
              try clear hfz52_2
              try clear hfz52_3
              try clear hfz53_0
              try clear hfz53_1
              try clear hfz53_2
              try clear hfz53_3
              try clear hfz55_0
              try clear hfz55_1
              try clear hfz55_2
              try clear hfz55_3
              try clear hfz61_0
              try clear hfz61_1
              try clear hfz61_2
              try clear hfz61_3
              try clear hfz62_0
              try clear hfz62_1
              try clear hfz62_2
              try clear hfz62_3
              try clear hfz8_0
              try clear hfz8_1
              try clear hfz8_2
              try clear hfz8_3
              try clear hfz9_0
              try clear hfz9_1
              try clear hfz9_2
              try clear hfz9_3
              try clear hfz9_4
              try clear hx144_0
              try clear p1
              try clear p14
              try clear p144
              try clear p2
              try clear p6
              try clear q1
              try clear q14
              try clear q144
              obtain ⟨kq, HA, HJ27, BK139, BK140, HB⟩ := hcut
              cases kq with
              | zero => exact absurd HA.out (by simp [laws_FnSixelBack.j2])
              | succ kj27 =>
                have H := HA.out
                clear HA
                simp only [laws_FnSixelBack.j2] at H
                have HC63 := Aside0.mk H
                clear H
                go_upto_region 12 with (fail)
                go_cut [90] (fun v90 wc => ∃ (kq : Nat) (x90_62 : Bool), v90 = .bool x90_62 ∧ Aside0 (laws_FnSixelBack.j3 kq a1 a2 x90_62 a3_0 a3_1 a3_2 a3_3 a3_4 = some r) ∧ Aside0 (kq ≤ kj27) ∧ Aside0 (wc.heap[gb139]? = some (.cells #[.int .i64 a0_0, .int .i64 a0_1, .int .i64 a0_2, .int .i64 a0_3] 33 (0, 0))) ∧ Aside0 (wc.heap[gb140]? = some (.cells #[.int .i64 a3_0, .int .i64 a3_1, .int .i64 a3_2, .int .i64 a3_3, .int .i64 a3_4] 23 (0, 0))) ∧ Aside0 (Below w.heap.size w wc))
                case first =>
                  have H := HC63.out
                  clear HC63
                  by_cases c64 : a2 < 128
                  · rw [if_pos c64] at H
                    have c64b0 : decide (a2 < 128) = true := decide_eq_true c64
                    clear c64
                    (first | rw [c64b0] | (simp only [i64_w, i32_w]; rw [c64b0]) | skip)
                    by_cases c65 : a2 < 48
                    · rw [if_pos c65] at H
                      have c65b0 : decide (a2 < 48) = true := decide_eq_true c65
                      clear c65
                      have H' := Aside0.mk H
                      clear H
                      go_wp2
                      go_meet
                      case rel => exact ⟨_, (true), (by first | rfl | (simp; done) | (simp [*]; done)), H', ⟨by have := HK1.out; have := HJ21.out; have := HJ27.out; first | omega | exact Nat.le_refl _⟩, ⟨by (with_reducible repeat (first | refine blk_drewN ?_ _ | refine blk_drew ?_ | refine blk_alloc ?_ _ | refine Go.Proofs.YtjicpadeplminaaDoor.Back.blk_bytes ?_)); exact BK139.out⟩, ⟨by (with_reducible repeat (first | refine blk_drewN ?_ _ | refine blk_drew ?_ | refine blk_alloc ?_ _ | refine Go.Proofs.YtjicpadeplminaaDoor.Back.blk_bytes ?_)); exact BK140.out⟩, ⟨by repeat (first | (with_reducible first | exact HB.out | apply below_alloc | apply Go.Proofs.YtjicpadeplminaaDoor.Ext.below_bytes | apply pw_below_drewN | apply below_drew1 | refine below_set ?_ GE139.out | refine below_set ?_ GE140.out) | exact HB.out)⟩⟩
                    · rw [if_neg c65] at H
                      have c65b0 : decide (a2 < 48) = false := decide_eq_false c65
                      clear c65
                      have H' := Aside0.mk H
                      clear H
                      go_wp2
                      go_meet
                      case rel => exact ⟨_, (decide (a2 > 57)), (by first | rfl | (simp; done) | (simp [*]; done)), H', ⟨by have := HK1.out; have := HJ21.out; have := HJ27.out; first | omega | exact Nat.le_refl _⟩, ⟨by (with_reducible repeat (first | refine blk_drewN ?_ _ | refine blk_drew ?_ | refine blk_alloc ?_ _ | refine Go.Proofs.YtjicpadeplminaaDoor.Back.blk_bytes ?_)); exact BK139.out⟩, ⟨by (with_reducible repeat (first | refine blk_drewN ?_ _ | refine blk_drew ?_ | refine blk_alloc ?_ _ | refine Go.Proofs.YtjicpadeplminaaDoor.Back.blk_bytes ?_)); exact BK140.out⟩, ⟨by repeat (first | (with_reducible first | exact HB.out | apply below_alloc | apply Go.Proofs.YtjicpadeplminaaDoor.Ext.below_bytes | apply pw_below_drewN | apply below_drew1 | refine below_set ?_ GE139.out | refine below_set ?_ GE140.out) | exact HB.out)⟩⟩
                  · rw [if_neg c64] at H
                    have c64b0 : decide (a2 < 128) = false := decide_eq_false c64
                    clear c64
                    (first | rw [c64b0] | (simp only [i64_w, i32_w]; rw [c64b0]) | skip)
                    have H' := Aside0.mk H
                    clear H
                    go_wp2
                    go_meet
                    case rel => exact ⟨_, (false), (by first | rfl | (simp; done) | (simp [*]; done)), H', ⟨by have := HK1.out; have := HJ21.out; have := HJ27.out; first | omega | exact Nat.le_refl _⟩, ⟨by (with_reducible repeat (first | refine blk_drewN ?_ _ | refine blk_drew ?_ | refine blk_alloc ?_ _ | refine Go.Proofs.YtjicpadeplminaaDoor.Back.blk_bytes ?_)); exact BK139.out⟩, ⟨by (with_reducible repeat (first | refine blk_drewN ?_ _ | refine blk_drew ?_ | refine blk_alloc ?_ _ | refine Go.Proofs.YtjicpadeplminaaDoor.Back.blk_bytes ?_)); exact BK140.out⟩, ⟨by repeat (first | (with_reducible first | exact HB.out | apply below_alloc | apply Go.Proofs.YtjicpadeplminaaDoor.Ext.below_bytes | apply pw_below_drewN | apply below_drew1 | refine below_set ?_ GE139.out | refine below_set ?_ GE140.out) | exact HB.out)⟩⟩
                case rest =>
                  clear HC63
                  try clear c1
                  try clear p1
                  try clear q1
                  try clear hx1
                  try clear c2
                  try clear p2
                  try clear c3
                  try clear c4
                  try clear c5
                  try clear c6
                  try clear p6
                  try clear c7
                  try clear c9
                  try clear c13
                  try clear c13b0
                  try clear c14
                  try clear c14b0
                  try clear p14
                  try clear q14
                  try clear hx14
                  try clear c15
                  try clear c15b0
                  try clear c16
                  try clear c16b0
                  try clear c19
                  try clear c19b0
                  try clear c23
                  try clear c23b0
                  try clear c24
                  try clear c26
                  try clear c29
                  try clear c31
                  try clear c31b0
                  try clear c31b1
                  try clear c31b2
                  try clear c32
                  try clear c32b0
                  try clear c32b1
                  try clear c32b2
                  try clear c34
                  try clear c34b0
                  try clear c35
                  try clear c40
                  try clear c41
                  try clear c44
                  try clear c44b0
                  try clear c44b1
                  try clear c45
                  try clear c50
                  try clear c51
                  try clear c54
                  try clear c59
                  try clear c60
                  try clear c64
                  try clear c64b0
                  try clear p64
                  try clear c65
                  try clear c65b0
                  try clear hcz25_0
                  try clear hcz25_1
                  try clear hcz25_2
                  try clear hcz25_3
                  try clear hcz27_0
                  try clear hcz27_1
                  try clear hcz27_2
                  try clear hcz27_3
                  try clear hcz36_0
                  try clear hcz36_1
                  try clear hcz36_2
                  try clear hcz36_3
                  try clear hcz42_0
                  try clear hcz42_1
                  try clear hcz42_2
                  try clear hcz42_3
                  try clear hcz43_0
                  try clear hcz43_1
                  try clear hcz43_2
                  try clear hcz43_3
                  try clear hcz46_0
                  try clear hcz46_1
                  try clear hcz46_2
                  try clear hcz46_3
                  try clear hcz52_0
                  try clear hcz52_1
                  try clear hcz52_2
                  try clear hcz52_3
                  try clear hcz53_0
                  try clear hcz53_1
                  try clear hcz53_2
                  try clear hcz53_3
                  try clear hcz55_0
                  try clear hcz55_1
                  try clear hcz55_2
                  try clear hcz55_3
                  try clear hcz61_0
                  try clear hcz61_1
                  try clear hcz61_2
                  try clear hcz61_3
                  try clear hcz62_0
                  try clear hcz62_1
                  try clear hcz62_2
                  try clear hcz62_3
                  try clear hcz8_0
                  try clear hcz8_1
                  try clear hcz8_2
                  try clear hcz8_3
                  try clear hcz9_0
                  try clear hcz9_1
                  try clear hcz9_2
                  try clear hcz9_3
                  try clear hcz9_4
                  try clear hfz25_0
                  try clear hfz25_1
                  try clear hfz25_2
                  try clear hfz25_3
                  try clear hfz27_0
                  try clear hfz27_1
                  try clear hfz27_2
                  try clear hfz27_3
                  try clear hfz36_0
                  try clear hfz36_1
                  try clear hfz36_2
                  try clear hfz36_3
                  try clear hfz42_0
                  try clear hfz42_1
                  try clear hfz42_2
                  try clear hfz42_3
                  try clear hfz43_0
                  try clear hfz43_1
                  try clear hfz43_2
                  try clear hfz43_3
                  try clear hfz46_0
                  try clear hfz46_1
                  try clear hfz46_2
                  try clear hfz46_3
                  try clear hfz52_0
                  try clear hfz52_1
                  try clear hfz52_2
                  try clear hfz52_3
                  try clear hfz53_0
                  try clear hfz53_1
                  try clear hfz53_2
                  try clear hfz53_3
                  try clear hfz55_0
                  try clear hfz55_1
                  try clear hfz55_2
                  try clear hfz55_3
                  try clear hfz61_0
                  try clear hfz61_1
                  try clear hfz61_2
                  try clear hfz61_3
                  try clear hfz62_0
                  try clear hfz62_1
                  try clear hfz62_2
                  try clear hfz62_3
                  try clear hfz8_0
                  try clear hfz8_1
                  try clear hfz8_2
                  try clear hfz8_3
                  try clear hfz9_0
                  try clear hfz9_1
                  try clear hfz9_2
                  try clear hfz9_3
                  try clear hfz9_4
                  try clear hx144_0
                  try clear p1
                  try clear p14
                  try clear p144
                  try clear p2
                  try clear p6
                  try clear q1
                  try clear q14
                  try clear q144
                  obtain ⟨kq, x90_62, rfl, HA, HJ62, BK139, BK140, HB⟩ := hcut
                  cases kq with
                  | zero => exact absurd HA.out (by simp [laws_FnSixelBack.j3])
                  | succ kj62 =>
                    have H := HA.out
                    clear HA
                    simp only [laws_FnSixelBack.j3] at H
                    have HC66 := Aside0.mk H
                    clear H
                    go_upto_if 90 with (fail)
                    go_cut [] (fun wc => ∃ (kq : Nat), Aside0 (laws_FnSixelBack.j4 kq a3_0 a3_1 a3_2 a3_3 a3_4 = some r) ∧ Aside0 (kq ≤ kj62) ∧ Aside0 (wc.heap[gb139]? = some (.cells #[.int .i64 a0_0, .int .i64 a0_1, .int .i64 a0_2, .int .i64 a0_3] 33 (0, 0))) ∧ Aside0 (wc.heap[gb140]? = some (.cells #[.int .i64 a3_0, .int .i64 a3_1, .int .i64 a3_2, .int .i64 a3_3, .int .i64 a3_4] 23 (0, 0))) ∧ Aside0 (Below w.heap.size w wc))
                    case first =>
                      have H := HC66.out
                      clear HC66
                      by_cases c67 : x90_62 = true
                      · subst c67
                        have H1 : ((impl_WriteRepeat.f a1 a2).bind fun t154 => (if t154.size + 1 ≤ 9223372036854775807 then (if (t154 ++ (⟨#[126]⟩ : ByteArray)).size ≤ 9223372036854775807 then ((impl_DecodeRepeat.f kj62 (bytesOf (t154 ++ (⟨#[126]⟩ : ByteArray)))).bind fun bt155 => (if bt155.1 = a1 then (if bt155.2.1 = a2 then (if bt155.2.2 = (t154.size : Int) then (laws_FnSixelBack.j4 kj62 a3_0 a3_1 a3_2 a3_3 a3_4) else (some false)) else (some false)) else (some false))) else (none)) else (none))) = some r := by rw [if_pos rfl] at H; exact H
                        clear H
                        have H := H1
                        clear H1
                        replace H := Option.bind_eq_some_iff.mp H
                        obtain ⟨t154, A680, H⟩ := H
                        replace H : (if t154.size + 1 ≤ 9223372036854775807 then (if (t154 ++ (⟨#[126]⟩ : ByteArray)).size ≤ 9223372036854775807 then ((impl_DecodeRepeat.f kj62 (bytesOf (t154 ++ (⟨#[126]⟩ : ByteArray)))).bind fun bt155 => (if bt155.1 = a1 then (if bt155.2.1 = a2 then (if bt155.2.2 = (t154.size : Int) then (laws_FnSixelBack.j4 kj62 a3_0 a3_1 a3_2 a3_3 a3_4) else (some false)) else (some false)) else (some false))) else (none)) else (none)) = some r := H
                        have A68 := Aside0.mk A680
                        clear A680
                        by_cases c69 : t154.size + 1 ≤ 9223372036854775807
                        · rw [if_pos c69] at H
                          have c69b0 := eq_true c69
                          have c69b1 : decide (t154.size + 1 ≤ 9223372036854775807) = true := decide_eq_true c69
                          try have c69b2 : (9223372036854775807 < t154.size + 1) = False := eq_false (Nat.not_lt.2 c69)
                          by_cases c70 : (t154 ++ (⟨#[126]⟩ : ByteArray)).size ≤ 9223372036854775807
                          · rw [if_pos c70] at H
                            have c70b0 := eq_true c70
                            have c70b1 : decide ((t154 ++ (⟨#[126]⟩ : ByteArray)).size ≤ 9223372036854775807) = true := decide_eq_true c70
                            try have c70b2 : (9223372036854775807 < (t154 ++ (⟨#[126]⟩ : ByteArray)).size) = False := eq_false (Nat.not_lt.2 c70)
                            replace H := Option.bind_eq_some_iff.mp H
                            obtain ⟨⟨t155, t156, t157⟩, A710, H⟩ := H
                            replace H : (if t155 = a1 then (if t156 = a2 then (if t157 = (t154.size : Int) then (laws_FnSixelBack.j4 kj62 a3_0 a3_1 a3_2 a3_3 a3_4) else (some false)) else (some false)) else (some false)) = some r := H
                            have A71 := Aside0.mk A710
                            clear A710
                            by_cases c72 : t155 = a1
                            · rw [if_pos c72] at H
                              have c72b0 : (t155 == a1) = true := beq_iff_eq.mpr c72
                              have c72b1 : (t155 != a1) = false := bne_eq_false_iff_eq.mpr c72
                              clear c72
                              (first | rw [c72b0] | (simp only [i64_w, i32_w]; rw [c72b0]) | skip)
                              by_cases c73 : t156 = a2
                              · rw [if_pos c73] at H
                                have c73b0 : (t156 == a2) = true := beq_iff_eq.mpr c73
                                have c73b1 : (t156 != a2) = false := bne_eq_false_iff_eq.mpr c73
                                clear c73
                                by_cases c74 : t157 = (t154.size : Int)
                                · rw [if_pos c74] at H
                                  have c74b0 : (t157 == (t154.size : Int)) = true := beq_iff_eq.mpr c74
                                  have c74b1 : (t157 != (t154.size : Int)) = false := bne_eq_false_iff_eq.mpr c74
                                  clear c74
                                  have H' := Aside0.mk H
                                  clear H
                                  go_wp2_with (first | ((with_reducible refine gate_callee (f := 9) rfl ?_); refine goesL_ (some 93) rfl rfl Tryd.func9 (by kernel_rfl) rfl #[.int .i64 a1, .int .u8 a2] rfl (by (try simp only [List.map_toArray, List.map_cons, List.map_nil]); first | done | rfl | (simp only [List.length_drop, List.length_take]; rfl) | (simp [Act.eval, *]; done) | (simp [Act.eval, *]; unfold wrap64; omega)) ?_; (with_reducible refine (impl_WriteRepeat.calls a1 a2 t154 _ ?side1 A68.out).mono ?_); (case side1 => exact HLD.out.below (by repeat (first | (with_reducible first | exact HB.out | apply below_alloc | apply Go.Proofs.YtjicpadeplminaaDoor.Ext.below_bytes | apply pw_below_drewN | apply below_drew1 | refine below_set ?_ GE139.out | refine below_set ?_ GE140.out) | exact HB.out))); rintro e w75 ⟨rfl, hb⟩; refine ⟨_, rfl, ?_⟩; have n0_ := Aside0.mk (blk_below (g := gb139) (o := .cells #[.int .i64 a0_0, .int .i64 a0_1, .int .i64 a0_2, .int .i64 a0_3] 33 (0, 0)) (by (with_reducible repeat (first | refine blk_drewN ?_ _ | refine blk_drew ?_ | refine blk_alloc ?_ _ | refine Go.Proofs.YtjicpadeplminaaDoor.Back.blk_bytes ?_)); exact BK139.out) hb); have n1_ := Aside0.mk (blk_below (g := gb140) (o := .cells #[.int .i64 a3_0, .int .i64 a3_1, .int .i64 a3_2, .int .i64 a3_3, .int .i64 a3_4] 23 (0, 0)) (by (with_reducible repeat (first | refine blk_drewN ?_ _ | refine blk_drew ?_ | refine blk_alloc ?_ _ | refine Go.Proofs.YtjicpadeplminaaDoor.Back.blk_bytes ?_)); exact BK140.out) hb); have n2_ := Aside0.mk (below_step (by repeat (first | (with_reducible first | exact HB.out | apply below_alloc | apply Go.Proofs.YtjicpadeplminaaDoor.Ext.below_bytes | apply pw_below_drewN | apply below_drew1 | refine below_set ?_ GE139.out | refine below_set ?_ GE140.out) | exact HB.out)) hb); clear BK139; clear BK140; clear HB; have BK139 := n0_; have BK140 := n1_; have HB := n2_; clear n0_ n1_ n2_; (try clear hb); (try clear hb2); (try clear hk); (try clear hi)) | (go_at_call 16; (with_reducible refine Go.Proofs.YtjicpadeplminaaDoor.Back.calls_len (m := (bytesOf (t154 ++ (⟨#[126]⟩ : ByteArray))).length) (k := ((t154 ++ (⟨#[126]⟩ : ByteArray))).size) (bytesOf_length _) (Go.Proofs.YtjicpadeplminaaDoor.Back.size_one _ _) ?_); (refine (impl_DecodeRepeat.calls kj62 _ _ (bytesOf (t154 ++ (⟨#[126]⟩ : ByteArray))) t155 t156 t157 _ ?side1 ?side2 A71.out).mono ?_); (case side1 => exact Go.Proofs.YtjicpadeplminaaDoor.Ext.C_bytes _ _ (t154 ++ (⟨#[126]⟩ : ByteArray)) (of_decide_eq_true (by first | (with_reducible assumption) | assumption))); (case side2 => exact Go.Proofs.YtjicpadeplminaaDoor.Back.bytes_room_at _ _ _ (Go.Proofs.YtjicpadeplminaaDoor.Back.size_one _ _)); rintro e w76 ⟨rfl, hb⟩; have n0_ := Aside0.mk (blk_below (g := gb139) (o := .cells #[.int .i64 a0_0, .int .i64 a0_1, .int .i64 a0_2, .int .i64 a0_3] 33 (0, 0)) (by (with_reducible repeat (first | refine blk_drewN ?_ _ | refine blk_drew ?_ | refine blk_alloc ?_ _ | refine Go.Proofs.YtjicpadeplminaaDoor.Back.blk_bytes ?_)); exact BK139.out) hb); have n1_ := Aside0.mk (blk_below (g := gb140) (o := .cells #[.int .i64 a3_0, .int .i64 a3_1, .int .i64 a3_2, .int .i64 a3_3, .int .i64 a3_4] 23 (0, 0)) (by (with_reducible repeat (first | refine blk_drewN ?_ _ | refine blk_drew ?_ | refine blk_alloc ?_ _ | refine Go.Proofs.YtjicpadeplminaaDoor.Back.blk_bytes ?_)); exact BK140.out) hb); have n2_ := Aside0.mk (below_step (by repeat (first | (with_reducible first | exact HB.out | apply below_alloc | apply Go.Proofs.YtjicpadeplminaaDoor.Ext.below_bytes | apply pw_below_drewN | apply below_drew1 | refine below_set ?_ GE139.out | refine below_set ?_ GE140.out) | exact HB.out)) hb); clear BK139; clear BK140; clear HB; have BK139 := n0_; have BK140 := n1_; have HB := n2_; clear n0_ n1_ n2_; (try clear hb); (try clear hb2); (try clear hk); (try clear hi)))
                                  go_meet
                                  case rel => exact ⟨_, H', ⟨by have := HK1.out; have := HJ21.out; have := HJ27.out; have := HJ62.out; first | omega | exact Nat.le_refl _⟩, ⟨by (with_reducible repeat (first | refine blk_drewN ?_ _ | refine blk_drew ?_ | refine blk_alloc ?_ _ | refine Go.Proofs.YtjicpadeplminaaDoor.Back.blk_bytes ?_)); exact BK139.out⟩, ⟨by (with_reducible repeat (first | refine blk_drewN ?_ _ | refine blk_drew ?_ | refine blk_alloc ?_ _ | refine Go.Proofs.YtjicpadeplminaaDoor.Back.blk_bytes ?_)); exact BK140.out⟩, ⟨by repeat (first | (with_reducible first | exact HB.out | apply below_alloc | apply Go.Proofs.YtjicpadeplminaaDoor.Ext.below_bytes | apply pw_below_drewN | apply below_drew1 | refine below_set ?_ GE139.out | refine below_set ?_ GE140.out) | exact HB.out)⟩⟩
                                · rw [if_neg c74] at H
                                  have c74b0 : (t157 == (t154.size : Int)) = false := beq_eq_false_iff_ne.mpr c74
                                  have c74b1 : (t157 != (t154.size : Int)) = true := bne_iff_ne.mpr c74
                                  obtain rfl := Option.some.inj H
                                  go_wp2_with (first | ((with_reducible refine gate_callee (f := 9) rfl ?_); refine goesL_ (some 93) rfl rfl Tryd.func9 (by kernel_rfl) rfl #[.int .i64 a1, .int .u8 a2] rfl (by (try simp only [List.map_toArray, List.map_cons, List.map_nil]); first | done | rfl | (simp only [List.length_drop, List.length_take]; rfl) | (simp [Act.eval, *]; done) | (simp [Act.eval, *]; unfold wrap64; omega)) ?_; (with_reducible refine (impl_WriteRepeat.calls a1 a2 t154 _ ?side1 A68.out).mono ?_); (case side1 => exact HLD.out.below (by repeat (first | (with_reducible first | exact HB.out | apply below_alloc | apply Go.Proofs.YtjicpadeplminaaDoor.Ext.below_bytes | apply pw_below_drewN | apply below_drew1 | refine below_set ?_ GE139.out | refine below_set ?_ GE140.out) | exact HB.out))); rintro e w77 ⟨rfl, hb⟩; refine ⟨_, rfl, ?_⟩; have n0_ := Aside0.mk (blk_below (g := gb139) (o := .cells #[.int .i64 a0_0, .int .i64 a0_1, .int .i64 a0_2, .int .i64 a0_3] 33 (0, 0)) (by (with_reducible repeat (first | refine blk_drewN ?_ _ | refine blk_drew ?_ | refine blk_alloc ?_ _ | refine Go.Proofs.YtjicpadeplminaaDoor.Back.blk_bytes ?_)); exact BK139.out) hb); have n1_ := Aside0.mk (blk_below (g := gb140) (o := .cells #[.int .i64 a3_0, .int .i64 a3_1, .int .i64 a3_2, .int .i64 a3_3, .int .i64 a3_4] 23 (0, 0)) (by (with_reducible repeat (first | refine blk_drewN ?_ _ | refine blk_drew ?_ | refine blk_alloc ?_ _ | refine Go.Proofs.YtjicpadeplminaaDoor.Back.blk_bytes ?_)); exact BK140.out) hb); have n2_ := Aside0.mk (below_step (by repeat (first | (with_reducible first | exact HB.out | apply below_alloc | apply Go.Proofs.YtjicpadeplminaaDoor.Ext.below_bytes | apply pw_below_drewN | apply below_drew1 | refine below_set ?_ GE139.out | refine below_set ?_ GE140.out) | exact HB.out)) hb); clear BK139; clear BK140; clear HB; have BK139 := n0_; have BK140 := n1_; have HB := n2_; clear n0_ n1_ n2_; (try clear hb); (try clear hb2); (try clear hk); (try clear hi)) | (go_at_call 16; (with_reducible refine Go.Proofs.YtjicpadeplminaaDoor.Back.calls_len (m := (bytesOf (t154 ++ (⟨#[126]⟩ : ByteArray))).length) (k := ((t154 ++ (⟨#[126]⟩ : ByteArray))).size) (bytesOf_length _) (Go.Proofs.YtjicpadeplminaaDoor.Back.size_one _ _) ?_); (refine (impl_DecodeRepeat.calls kj62 _ _ (bytesOf (t154 ++ (⟨#[126]⟩ : ByteArray))) t155 t156 t157 _ ?side1 ?side2 A71.out).mono ?_); (case side1 => exact Go.Proofs.YtjicpadeplminaaDoor.Ext.C_bytes _ _ (t154 ++ (⟨#[126]⟩ : ByteArray)) (of_decide_eq_true (by first | (with_reducible assumption) | assumption))); (case side2 => exact Go.Proofs.YtjicpadeplminaaDoor.Back.bytes_room_at _ _ _ (Go.Proofs.YtjicpadeplminaaDoor.Back.size_one _ _)); rintro e w78 ⟨rfl, hb⟩; have n0_ := Aside0.mk (blk_below (g := gb139) (o := .cells #[.int .i64 a0_0, .int .i64 a0_1, .int .i64 a0_2, .int .i64 a0_3] 33 (0, 0)) (by (with_reducible repeat (first | refine blk_drewN ?_ _ | refine blk_drew ?_ | refine blk_alloc ?_ _ | refine Go.Proofs.YtjicpadeplminaaDoor.Back.blk_bytes ?_)); exact BK139.out) hb); have n1_ := Aside0.mk (blk_below (g := gb140) (o := .cells #[.int .i64 a3_0, .int .i64 a3_1, .int .i64 a3_2, .int .i64 a3_3, .int .i64 a3_4] 23 (0, 0)) (by (with_reducible repeat (first | refine blk_drewN ?_ _ | refine blk_drew ?_ | refine blk_alloc ?_ _ | refine Go.Proofs.YtjicpadeplminaaDoor.Back.blk_bytes ?_)); exact BK140.out) hb); have n2_ := Aside0.mk (below_step (by repeat (first | (with_reducible first | exact HB.out | apply below_alloc | apply Go.Proofs.YtjicpadeplminaaDoor.Ext.below_bytes | apply pw_below_drewN | apply below_drew1 | refine below_set ?_ GE139.out | refine below_set ?_ GE140.out) | exact HB.out)) hb); clear BK139; clear BK140; clear HB; have BK139 := n0_; have BK140 := n1_; have HB := n2_; clear n0_ n1_ n2_; (try clear hb); (try clear hb2); (try clear hk); (try clear hi)))
                                  go_ret
                                  exact ⟨by first | rfl | (simp [errW_none, errW_some] <;> rfl) | (simp [*, errW_none, errW_some] <;> rfl), by repeat (first | (with_reducible first | exact HB.out | apply below_alloc | apply Go.Proofs.YtjicpadeplminaaDoor.Ext.below_bytes | apply pw_below_drewN | apply below_drew1 | refine below_set ?_ GE139.out | refine below_set ?_ GE140.out) | exact HB.out)⟩
                              · rw [if_neg c73] at H
                                have c73b0 : (t156 == a2) = false := beq_eq_false_iff_ne.mpr c73
                                have c73b1 : (t156 != a2) = true := bne_iff_ne.mpr c73
                                obtain rfl := Option.some.inj H
                                go_wp2_with (first | ((with_reducible refine gate_callee (f := 9) rfl ?_); refine goesL_ (some 93) rfl rfl Tryd.func9 (by kernel_rfl) rfl #[.int .i64 a1, .int .u8 a2] rfl (by (try simp only [List.map_toArray, List.map_cons, List.map_nil]); first | done | rfl | (simp only [List.length_drop, List.length_take]; rfl) | (simp [Act.eval, *]; done) | (simp [Act.eval, *]; unfold wrap64; omega)) ?_; (with_reducible refine (impl_WriteRepeat.calls a1 a2 t154 _ ?side1 A68.out).mono ?_); (case side1 => exact HLD.out.below (by repeat (first | (with_reducible first | exact HB.out | apply below_alloc | apply Go.Proofs.YtjicpadeplminaaDoor.Ext.below_bytes | apply pw_below_drewN | apply below_drew1 | refine below_set ?_ GE139.out | refine below_set ?_ GE140.out) | exact HB.out))); rintro e w79 ⟨rfl, hb⟩; refine ⟨_, rfl, ?_⟩; have n0_ := Aside0.mk (blk_below (g := gb139) (o := .cells #[.int .i64 a0_0, .int .i64 a0_1, .int .i64 a0_2, .int .i64 a0_3] 33 (0, 0)) (by (with_reducible repeat (first | refine blk_drewN ?_ _ | refine blk_drew ?_ | refine blk_alloc ?_ _ | refine Go.Proofs.YtjicpadeplminaaDoor.Back.blk_bytes ?_)); exact BK139.out) hb); have n1_ := Aside0.mk (blk_below (g := gb140) (o := .cells #[.int .i64 a3_0, .int .i64 a3_1, .int .i64 a3_2, .int .i64 a3_3, .int .i64 a3_4] 23 (0, 0)) (by (with_reducible repeat (first | refine blk_drewN ?_ _ | refine blk_drew ?_ | refine blk_alloc ?_ _ | refine Go.Proofs.YtjicpadeplminaaDoor.Back.blk_bytes ?_)); exact BK140.out) hb); have n2_ := Aside0.mk (below_step (by repeat (first | (with_reducible first | exact HB.out | apply below_alloc | apply Go.Proofs.YtjicpadeplminaaDoor.Ext.below_bytes | apply pw_below_drewN | apply below_drew1 | refine below_set ?_ GE139.out | refine below_set ?_ GE140.out) | exact HB.out)) hb); clear BK139; clear BK140; clear HB; have BK139 := n0_; have BK140 := n1_; have HB := n2_; clear n0_ n1_ n2_; (try clear hb); (try clear hb2); (try clear hk); (try clear hi)) | (go_at_call 16; (with_reducible refine Go.Proofs.YtjicpadeplminaaDoor.Back.calls_len (m := (bytesOf (t154 ++ (⟨#[126]⟩ : ByteArray))).length) (k := ((t154 ++ (⟨#[126]⟩ : ByteArray))).size) (bytesOf_length _) (Go.Proofs.YtjicpadeplminaaDoor.Back.size_one _ _) ?_); (refine (impl_DecodeRepeat.calls kj62 _ _ (bytesOf (t154 ++ (⟨#[126]⟩ : ByteArray))) t155 t156 t157 _ ?side1 ?side2 A71.out).mono ?_); (case side1 => exact Go.Proofs.YtjicpadeplminaaDoor.Ext.C_bytes _ _ (t154 ++ (⟨#[126]⟩ : ByteArray)) (of_decide_eq_true (by first | (with_reducible assumption) | assumption))); (case side2 => exact Go.Proofs.YtjicpadeplminaaDoor.Back.bytes_room_at _ _ _ (Go.Proofs.YtjicpadeplminaaDoor.Back.size_one _ _)); rintro e w80 ⟨rfl, hb⟩; have n0_ := Aside0.mk (blk_below (g := gb139) (o := .cells #[.int .i64 a0_0, .int .i64 a0_1, .int .i64 a0_2, .int .i64 a0_3] 33 (0, 0)) (by (with_reducible repeat (first | refine blk_drewN ?_ _ | refine blk_drew ?_ | refine blk_alloc ?_ _ | refine Go.Proofs.YtjicpadeplminaaDoor.Back.blk_bytes ?_)); exact BK139.out) hb); have n1_ := Aside0.mk (blk_below (g := gb140) (o := .cells #[.int .i64 a3_0, .int .i64 a3_1, .int .i64 a3_2, .int .i64 a3_3, .int .i64 a3_4] 23 (0, 0)) (by (with_reducible repeat (first | refine blk_drewN ?_ _ | refine blk_drew ?_ | refine blk_alloc ?_ _ | refine Go.Proofs.YtjicpadeplminaaDoor.Back.blk_bytes ?_)); exact BK140.out) hb); have n2_ := Aside0.mk (below_step (by repeat (first | (with_reducible first | exact HB.out | apply below_alloc | apply Go.Proofs.YtjicpadeplminaaDoor.Ext.below_bytes | apply pw_below_drewN | apply below_drew1 | refine below_set ?_ GE139.out | refine below_set ?_ GE140.out) | exact HB.out)) hb); clear BK139; clear BK140; clear HB; have BK139 := n0_; have BK140 := n1_; have HB := n2_; clear n0_ n1_ n2_; (try clear hb); (try clear hb2); (try clear hk); (try clear hi)))
                                go_ret
                                exact ⟨by first | rfl | (simp [errW_none, errW_some] <;> rfl) | (simp [*, errW_none, errW_some] <;> rfl), by repeat (first | (with_reducible first | exact HB.out | apply below_alloc | apply Go.Proofs.YtjicpadeplminaaDoor.Ext.below_bytes | apply pw_below_drewN | apply below_drew1 | refine below_set ?_ GE139.out | refine below_set ?_ GE140.out) | exact HB.out)⟩
                            · rw [if_neg c72] at H
                              have c72b0 : (t155 == a1) = false := beq_eq_false_iff_ne.mpr c72
                              have c72b1 : (t155 != a1) = true := bne_iff_ne.mpr c72
                              (first | rw [c72b0] | (simp only [i64_w, i32_w]; rw [c72b0]) | skip)
                              obtain rfl := Option.some.inj H
                              go_wp2_with (first | ((with_reducible refine gate_callee (f := 9) rfl ?_); refine goesL_ (some 93) rfl rfl Tryd.func9 (by kernel_rfl) rfl #[.int .i64 a1, .int .u8 a2] rfl (by (try simp only [List.map_toArray, List.map_cons, List.map_nil]); first | done | rfl | (simp only [List.length_drop, List.length_take]; rfl) | (simp [Act.eval, *]; done) | (simp [Act.eval, *]; unfold wrap64; omega)) ?_; (with_reducible refine (impl_WriteRepeat.calls a1 a2 t154 _ ?side1 A68.out).mono ?_); (case side1 => exact HLD.out.below (by repeat (first | (with_reducible first | exact HB.out | apply below_alloc | apply Go.Proofs.YtjicpadeplminaaDoor.Ext.below_bytes | apply pw_below_drewN | apply below_drew1 | refine below_set ?_ GE139.out | refine below_set ?_ GE140.out) | exact HB.out))); rintro e w81 ⟨rfl, hb⟩; refine ⟨_, rfl, ?_⟩; have n0_ := Aside0.mk (blk_below (g := gb139) (o := .cells #[.int .i64 a0_0, .int .i64 a0_1, .int .i64 a0_2, .int .i64 a0_3] 33 (0, 0)) (by (with_reducible repeat (first | refine blk_drewN ?_ _ | refine blk_drew ?_ | refine blk_alloc ?_ _ | refine Go.Proofs.YtjicpadeplminaaDoor.Back.blk_bytes ?_)); exact BK139.out) hb); have n1_ := Aside0.mk (blk_below (g := gb140) (o := .cells #[.int .i64 a3_0, .int .i64 a3_1, .int .i64 a3_2, .int .i64 a3_3, .int .i64 a3_4] 23 (0, 0)) (by (with_reducible repeat (first | refine blk_drewN ?_ _ | refine blk_drew ?_ | refine blk_alloc ?_ _ | refine Go.Proofs.YtjicpadeplminaaDoor.Back.blk_bytes ?_)); exact BK140.out) hb); have n2_ := Aside0.mk (below_step (by repeat (first | (with_reducible first | exact HB.out | apply below_alloc | apply Go.Proofs.YtjicpadeplminaaDoor.Ext.below_bytes | apply pw_below_drewN | apply below_drew1 | refine below_set ?_ GE139.out | refine below_set ?_ GE140.out) | exact HB.out)) hb); clear BK139; clear BK140; clear HB; have BK139 := n0_; have BK140 := n1_; have HB := n2_; clear n0_ n1_ n2_; (try clear hb); (try clear hb2); (try clear hk); (try clear hi)) | (go_at_call 16; (with_reducible refine Go.Proofs.YtjicpadeplminaaDoor.Back.calls_len (m := (bytesOf (t154 ++ (⟨#[126]⟩ : ByteArray))).length) (k := ((t154 ++ (⟨#[126]⟩ : ByteArray))).size) (bytesOf_length _) (Go.Proofs.YtjicpadeplminaaDoor.Back.size_one _ _) ?_); (refine (impl_DecodeRepeat.calls kj62 _ _ (bytesOf (t154 ++ (⟨#[126]⟩ : ByteArray))) t155 t156 t157 _ ?side1 ?side2 A71.out).mono ?_); (case side1 => exact Go.Proofs.YtjicpadeplminaaDoor.Ext.C_bytes _ _ (t154 ++ (⟨#[126]⟩ : ByteArray)) (of_decide_eq_true (by first | (with_reducible assumption) | assumption))); (case side2 => exact Go.Proofs.YtjicpadeplminaaDoor.Back.bytes_room_at _ _ _ (Go.Proofs.YtjicpadeplminaaDoor.Back.size_one _ _)); rintro e w82 ⟨rfl, hb⟩; have n0_ := Aside0.mk (blk_below (g := gb139) (o := .cells #[.int .i64 a0_0, .int .i64 a0_1, .int .i64 a0_2, .int .i64 a0_3] 33 (0, 0)) (by (with_reducible repeat (first | refine blk_drewN ?_ _ | refine blk_drew ?_ | refine blk_alloc ?_ _ | refine Go.Proofs.YtjicpadeplminaaDoor.Back.blk_bytes ?_)); exact BK139.out) hb); have n1_ := Aside0.mk (blk_below (g := gb140) (o := .cells #[.int .i64 a3_0, .int .i64 a3_1, .int .i64 a3_2, .int .i64 a3_3, .int .i64 a3_4] 23 (0, 0)) (by (with_reducible repeat (first | refine blk_drewN ?_ _ | refine blk_drew ?_ | refine blk_alloc ?_ _ | refine Go.Proofs.YtjicpadeplminaaDoor.Back.blk_bytes ?_)); exact BK140.out) hb); have n2_ := Aside0.mk (below_step (by repeat (first | (with_reducible first | exact HB.out | apply below_alloc | apply Go.Proofs.YtjicpadeplminaaDoor.Ext.below_bytes | apply pw_below_drewN | apply below_drew1 | refine below_set ?_ GE139.out | refine below_set ?_ GE140.out) | exact HB.out)) hb); clear BK139; clear BK140; clear HB; have BK139 := n0_; have BK140 := n1_; have HB := n2_; clear n0_ n1_ n2_; (try clear hb); (try clear hb2); (try clear hk); (try clear hi)))
                              go_ret
                              exact ⟨by first | rfl | (simp [errW_none, errW_some] <;> rfl) | (simp [*, errW_none, errW_some] <;> rfl), by repeat (first | (with_reducible first | exact HB.out | apply below_alloc | apply Go.Proofs.YtjicpadeplminaaDoor.Ext.below_bytes | apply pw_below_drewN | apply below_drew1 | refine below_set ?_ GE139.out | refine below_set ?_ GE140.out) | exact HB.out)⟩
                          · rw [if_neg c70] at H
                            exact absurd H (by simp)
                        · rw [if_neg c69] at H
                          exact absurd H (by simp)
                      · replace c67 := Bool.eq_false_iff.mpr c67
                        subst c67
                        have H1 : (laws_FnSixelBack.j4 kj62 a3_0 a3_1 a3_2 a3_3 a3_4) = some r := by rw [if_neg (show ¬ (false = true) by decide)] at H; exact H
                        clear H
                        have H := H1
                        clear H1
                        have H' := Aside0.mk H
                        clear H
                        go_wp2
                        go_meet
                        case rel => exact ⟨_, H', ⟨by have := HK1.out; have := HJ21.out; have := HJ27.out; have := HJ62.out; first | omega | exact Nat.le_refl _⟩, ⟨by (with_reducible repeat (first | refine blk_drewN ?_ _ | refine blk_drew ?_ | refine blk_alloc ?_ _ | refine Go.Proofs.YtjicpadeplminaaDoor.Back.blk_bytes ?_)); exact BK139.out⟩, ⟨by (with_reducible repeat (first | refine blk_drewN ?_ _ | refine blk_drew ?_ | refine blk_alloc ?_ _ | refine Go.Proofs.YtjicpadeplminaaDoor.Back.blk_bytes ?_)); exact BK140.out⟩, ⟨by repeat (first | (with_reducible first | exact HB.out | apply below_alloc | apply Go.Proofs.YtjicpadeplminaaDoor.Ext.below_bytes | apply pw_below_drewN | apply below_drew1 | refine below_set ?_ GE139.out | refine below_set ?_ GE140.out) | exact HB.out)⟩⟩
                    case rest =>
                      clear HC66
                      try clear c1
                      try clear p1
                      try clear q1
                      try clear hx1
                      try clear c2
                      try clear p2
                      try clear c3
                      try clear c4
                      try clear c5
                      try clear c6
                      try clear p6
                      try clear c7
                      try clear c9
                      try clear c13
                      try clear c13b0
                      try clear c14
                      try clear c14b0
                      try clear p14
                      try clear q14
                      try clear hx14
                      try clear c15
                      try clear c15b0
                      try clear c16
                      try clear c16b0
                      try clear c19
                      try clear c19b0
                      try clear c23
                      try clear c23b0
                      try clear c24
                      try clear c26
                      try clear c29
                      try clear c31
                      try clear c31b0
                      try clear c31b1
                      try clear c31b2
                      try clear c32
                      try clear c32b0
                      try clear c32b1
                      try clear c32b2
                      try clear c34
                      try clear c34b0
                      try clear c35
                      try clear c40
                      try clear c41
                      try clear c44
                      try clear c44b0
                      try clear c44b1
                      try clear c45
                      try clear c50
                      try clear c51
                      try clear c54
                      try clear c59
                      try clear c60
                      try clear c64
                      try clear c64b0
                      try clear p64
                      try clear c65
                      try clear c65b0
                      try clear c67
                      try clear c69
                      try clear c69b0
                      try clear c69b1
                      try clear c69b2
                      try clear c70
                      try clear c70b0
                      try clear c70b1
                      try clear c70b2
                      try clear c72
                      try clear c72b0
                      try clear c72b1
                      try clear c73
                      try clear c73b0
                      try clear c73b1
                      try clear c74
                      try clear c74b0
                      try clear c74b1
                      try clear hcz25_0
                      try clear hcz25_1
                      try clear hcz25_2
                      try clear hcz25_3
                      try clear hcz27_0
                      try clear hcz27_1
                      try clear hcz27_2
                      try clear hcz27_3
                      try clear hcz36_0
                      try clear hcz36_1
                      try clear hcz36_2
                      try clear hcz36_3
                      try clear hcz42_0
                      try clear hcz42_1
                      try clear hcz42_2
                      try clear hcz42_3
                      try clear hcz43_0
                      try clear hcz43_1
                      try clear hcz43_2
                      try clear hcz43_3
                      try clear hcz46_0
                      try clear hcz46_1
                      try clear hcz46_2
                      try clear hcz46_3
                      try clear hcz52_0
                      try clear hcz52_1
                      try clear hcz52_2
                      try clear hcz52_3
                      try clear hcz53_0
                      try clear hcz53_1
                      try clear hcz53_2
                      try clear hcz53_3
                      try clear hcz55_0
                      try clear hcz55_1
                      try clear hcz55_2
                      try clear hcz55_3
                      try clear hcz61_0
                      try clear hcz61_1
                      try clear hcz61_2
                      try clear hcz61_3
                      try clear hcz62_0
                      try clear hcz62_1
                      try clear hcz62_2
                      try clear hcz62_3
                      try clear hcz8_0
                      try clear hcz8_1
                      try clear hcz8_2
                      try clear hcz8_3
                      try clear hcz9_0
                      try clear hcz9_1
                      try clear hcz9_2
                      try clear hcz9_3
                      try clear hcz9_4
                      try clear hfz25_0
                      try clear hfz25_1
                      try clear hfz25_2
                      try clear hfz25_3
                      try clear hfz27_0
                      try clear hfz27_1
                      try clear hfz27_2
                      try clear hfz27_3
                      try clear hfz36_0
                      try clear hfz36_1
                      try clear hfz36_2
                      try clear hfz36_3
                      try clear hfz42_0
                      try clear hfz42_1
                      try clear hfz42_2
                      try clear hfz42_3
                      try clear hfz43_0
                      try clear hfz43_1
                      try clear hfz43_2
                      try clear hfz43_3
                      try clear hfz46_0
                      try clear hfz46_1
                      try clear hfz46_2
                      try clear hfz46_3
                      try clear hfz52_0
                      try clear hfz52_1
                      try clear hfz52_2
                      try clear hfz52_3
                      try clear hfz53_0
                      try clear hfz53_1
                      try clear hfz53_2
                      try clear hfz53_3
                      try clear hfz55_0
                      try clear hfz55_1
                      try clear hfz55_2
                      try clear hfz55_3
                      try clear hfz61_0
                      try clear hfz61_1
                      try clear hfz61_2
                      try clear hfz61_3
                      try clear hfz62_0
                      try clear hfz62_1
                      try clear hfz62_2
                      try clear hfz62_3
                      try clear hfz8_0
                      try clear hfz8_1
                      try clear hfz8_2
                      try clear hfz8_3
                      try clear hfz9_0
                      try clear hfz9_1
                      try clear hfz9_2
                      try clear hfz9_3
                      try clear hfz9_4
                      try clear hx144_0
                      try clear p1
                      try clear p14
                      try clear p144
                      try clear p2
                      try clear p6
                      try clear p64
                      try clear q1
                      try clear q14
                      try clear q144
                      obtain ⟨kq, HA, HJ65, BK139, BK140, HB⟩ := hcut
                      cases kq with
                      | zero => exact absurd HA.out (by simp [laws_FnSixelBack.j4])
                      | succ kj65 =>
                        have H := HA.out
                        clear HA
                        simp only [laws_FnSixelBack.j4] at H
                        have HC83 := Aside0.mk H
                        clear H
                        go_upto_region 17 with (fail)
                        go_cut [123] (fun v123 wc => ∃ (kq : Nat) (x123_82 : Bool), v123 = .bool x123_82 ∧ Aside0 (laws_FnSixelBack.j5 kq x123_82 a3_0 a3_1 a3_2 a3_3 a3_4 = some r) ∧ Aside0 (kq ≤ kj65) ∧ Aside0 (wc.heap[gb139]? = some (.cells #[.int .i64 a0_0, .int .i64 a0_1, .int .i64 a0_2, .int .i64 a0_3] 33 (0, 0))) ∧ Aside0 (wc.heap[gb140]? = some (.cells #[.int .i64 a3_0, .int .i64 a3_1, .int .i64 a3_2, .int .i64 a3_3, .int .i64 a3_4] 23 (0, 0))) ∧ Aside0 (Below w.heap.size w wc))
                        case first =>
                          have H := HC83.out
                          clear HC83
                          by_cases c84 : a3_1 = 1
                          · rw [if_pos c84] at H
                            have c84b0 : (a3_1 == 1) = true := beq_iff_eq.mpr c84
                            have c84b1 : (a3_1 != 1) = false := bne_eq_false_iff_eq.mpr c84
                            clear c84
                            (first | rw [c84b0] | (simp only [i64_w, i32_w]; rw [c84b0]) | skip)
                            have H' := Aside0.mk H
                            clear H
                            have hnb85 := NB140_139.out
                            have hnc85 := NB139_140.out
                            have hcz86_0 : wc.cell? ⟨gb140, 0, none⟩ = some (.int .i64 a3_0) := (blk_cell BK140.out 0).trans rfl
                            have hcz86_1 : wc.cell? ⟨gb140, 1, none⟩ = some (.int .i64 a3_1) := (blk_cell BK140.out 1).trans rfl
                            have hcz86_2 : wc.cell? ⟨gb140, 2, none⟩ = some (.int .i64 a3_2) := (blk_cell BK140.out 2).trans rfl
                            have hcz86_3 : wc.cell? ⟨gb140, 3, none⟩ = some (.int .i64 a3_3) := (blk_cell BK140.out 3).trans rfl
                            have hcz86_4 : wc.cell? ⟨gb140, 4, none⟩ = some (.int .i64 a3_4) := (blk_cell BK140.out 4).trans rfl
                            have hfz86_0 := blk_frozen BK140.out 0
                            have hfz86_1 := blk_frozen BK140.out 1
                            have hfz86_2 := blk_frozen BK140.out 2
                            have hfz86_3 := blk_frozen BK140.out 3
                            have hfz86_4 := blk_frozen BK140.out 4
                            go_wp2
                            go_meet
                            case rel => exact ⟨_, (true), (by first | rfl | (simp; done) | (simp [*]; done)), H', ⟨by have := HK1.out; have := HJ21.out; have := HJ27.out; have := HJ62.out; have := HJ65.out; first | omega | exact Nat.le_refl _⟩, ⟨by (with_reducible repeat (first | refine blk_drewN ?_ _ | refine blk_drew ?_ | refine blk_alloc ?_ _ | refine Go.Proofs.YtjicpadeplminaaDoor.Back.blk_bytes ?_)); exact BK139.out⟩, ⟨by (with_reducible repeat (first | refine blk_drewN ?_ _ | refine blk_drew ?_ | refine blk_alloc ?_ _ | refine Go.Proofs.YtjicpadeplminaaDoor.Back.blk_bytes ?_)); exact BK140.out⟩, ⟨by repeat (first | (with_reducible first | exact HB.out | apply below_alloc | apply Go.Proofs.YtjicpadeplminaaDoor.Ext.below_bytes | apply pw_below_drewN | apply below_drew1 | refine below_set ?_ GE139.out | refine below_set ?_ GE140.out) | exact HB.out)⟩⟩
                          · rw [if_neg c84] at H
                            have c84b0 : (a3_1 == 1) = false := beq_eq_false_iff_ne.mpr c84
                            have c84b1 : (a3_1 != 1) = true := bne_iff_ne.mpr c84
                            (first | rw [c84b0] | (simp only [i64_w, i32_w]; rw [c84b0]) | skip)
                            have H' := Aside0.mk H
                            clear H
                            have hnb87 := NB140_139.out
                            have hnc87 := NB139_140.out
                            have hcz88_0 : wc.cell? ⟨gb140, 0, none⟩ = some (.int .i64 a3_0) := (blk_cell BK140.out 0).trans rfl
                            have hcz88_1 : wc.cell? ⟨gb140, 1, none⟩ = some (.int .i64 a3_1) := (blk_cell BK140.out 1).trans rfl
                            have hcz88_2 : wc.cell? ⟨gb140, 2, none⟩ = some (.int .i64 a3_2) := (blk_cell BK140.out 2).trans rfl
                            have hcz88_3 : wc.cell? ⟨gb140, 3, none⟩ = some (.int .i64 a3_3) := (blk_cell BK140.out 3).trans rfl
                            have hcz88_4 : wc.cell? ⟨gb140, 4, none⟩ = some (.int .i64 a3_4) := (blk_cell BK140.out 4).trans rfl
                            have hfz88_0 := blk_frozen BK140.out 0
                            have hfz88_1 := blk_frozen BK140.out 1
                            have hfz88_2 := blk_frozen BK140.out 2
                            have hfz88_3 := blk_frozen BK140.out 3
                            have hfz88_4 := blk_frozen BK140.out 4
                            go_wp2
                            go_meet
                            case rel => exact ⟨_, ((a3_1 == 2)), (by first | rfl | (simp; done) | (simp [*]; done)), H', ⟨by have := HK1.out; have := HJ21.out; have := HJ27.out; have := HJ62.out; have := HJ65.out; first | omega | exact Nat.le_refl _⟩, ⟨by (with_reducible repeat (first | refine blk_drewN ?_ _ | refine blk_drew ?_ | refine blk_alloc ?_ _ | refine Go.Proofs.YtjicpadeplminaaDoor.Back.blk_bytes ?_)); exact BK139.out⟩, ⟨by (with_reducible repeat (first | refine blk_drewN ?_ _ | refine blk_drew ?_ | refine blk_alloc ?_ _ | refine Go.Proofs.YtjicpadeplminaaDoor.Back.blk_bytes ?_)); exact BK140.out⟩, ⟨by repeat (first | (with_reducible first | exact HB.out | apply below_alloc | apply Go.Proofs.YtjicpadeplminaaDoor.Ext.below_bytes | apply pw_below_drewN | apply below_drew1 | refine below_set ?_ GE139.out | refine below_set ?_ GE140.out) | exact HB.out)⟩⟩
                        case rest =>
                          clear HC83
                          try clear c1
                          try clear p1
                          try clear q1
                          try clear hx1
                          try clear c2
                          try clear p2
                          try clear c3
                          try clear c4
                          try clear c5
                          try clear c6
                          try clear p6
                          try clear c7
                          try clear c8
                          try clear c9
                          try clear c13
                          try clear c13b0
                          try clear c14
                          try clear c14b0
                          try clear p14
                          try clear q14
                          try clear hx14
                          try clear c15
                          try clear c15b0
                          try clear c16
                          try clear c16b0
                          try clear c19
                          try clear c19b0
                          try clear c23
                          try clear c23b0
                          try clear c24
                          try clear c26
                          try clear c29
                          try clear c31
                          try clear c31b0
                          try clear c31b1
                          try clear c31b2
                          try clear c32
                          try clear c32b0
                          try clear c32b1
                          try clear c32b2
                          try clear c34
                          try clear c34b0
                          try clear c35
                          try clear c40
                          try clear c41
                          try clear c44
                          try clear c44b0
                          try clear c44b1
                          try clear c45
                          try clear c50
                          try clear c51
                          try clear c54
                          try clear c59
                          try clear c60
                          try clear c64
                          try clear c64b0
                          try clear p64
                          try clear c65
                          try clear c65b0
                          try clear c67
                          try clear c69
                          try clear c69b0
                          try clear c69b1
                          try clear c69b2
                          try clear c70
                          try clear c70b0
                          try clear c70b1
                          try clear c70b2
                          try clear c72
                          try clear c72b0
                          try clear c72b1
                          try clear c73
                          try clear c73b0
                          try clear c73b1
                          try clear c74
                          try clear c74b0
                          try clear c74b1
                          try clear c84
                          try clear c84b0
                          try clear c84b1
                          try clear c85
                          try clear c87
                          try clear hcz25_0
                          try clear hcz25_1
                          try clear hcz25_2
                          try clear hcz25_3
                          try clear hcz27_0
                          try clear hcz27_1
                          try clear hcz27_2
                          try clear hcz27_3
                          try clear hcz36_0
                          try clear hcz36_1
                          try clear hcz36_2
                          try clear hcz36_3
                          try clear hcz42_0
                          try clear hcz42_1
                          try clear hcz42_2
                          try clear hcz42_3
                          try clear hcz43_0
                          try clear hcz43_1
                          try clear hcz43_2
                          try clear hcz43_3
                          try clear hcz46_0
                          try clear hcz46_1
                          try clear hcz46_2
                          try clear hcz46_3
                          try clear hcz52_0
                          try clear hcz52_1
                          try clear hcz52_2
                          try clear hcz52_3
                          try clear hcz53_0
                          try clear hcz53_1
                          try clear hcz53_2
                          try clear hcz53_3
                          try clear hcz55_0
                          try clear hcz55_1
                          try clear hcz55_2
                          try clear hcz55_3
                          try clear hcz61_0
                          try clear hcz61_1
                          try clear hcz61_2
                          try clear hcz61_3
                          try clear hcz62_0
                          try clear hcz62_1
                          try clear hcz62_2
                          try clear hcz62_3
                          try clear hcz86_0
                          try clear hcz86_1
                          try clear hcz86_2
                          try clear hcz86_3
                          try clear hcz86_4
                          try clear hcz88_0
                          try clear hcz88_1
                          try clear hcz88_2
                          try clear hcz88_3
                          try clear hcz88_4
                          try clear hcz8_0
                          try clear hcz8_1
                          try clear hcz8_2
                          try clear hcz8_3
                          try clear hcz9_0
                          try clear hcz9_1
                          try clear hcz9_2
                          try clear hcz9_3
                          try clear hcz9_4
                          try clear hfz25_0
                          try clear hfz25_1
                          try clear hfz25_2
                          try clear hfz25_3
                          try clear hfz27_0
                          try clear hfz27_1
                          try clear hfz27_2
                          try clear hfz27_3
                          try clear hfz36_0
                          try clear hfz36_1
                          try clear hfz36_2
                          try clear hfz36_3
                          try clear hfz42_0
                          try clear hfz42_1
                          try clear hfz42_2
                          try clear hfz42_3
                          try clear hfz43_0
                          try clear hfz43_1
                          try clear hfz43_2
                          try clear hfz43_3
                          try clear hfz46_0
                          try clear hfz46_1
                          try clear hfz46_2
                          try clear hfz46_3
                          try clear hfz52_0
                          try clear hfz52_1
                          try clear hfz52_2
                          try clear hfz52_3
                          try clear hfz53_0
                          try clear hfz53_1
                          try clear hfz53_2
                          try clear hfz53_3
                          try clear hfz55_0
                          try clear hfz55_1
                          try clear hfz55_2
                          try clear hfz55_3
                          try clear hfz61_0
                          try clear hfz61_1
                          try clear hfz61_2
                          try clear hfz61_3
                          try clear hfz62_0
                          try clear hfz62_1
                          try clear hfz62_2
                          try clear hfz62_3
                          try clear hfz86_0
                          try clear hfz86_1
                          try clear hfz86_2
                          try clear hfz86_3
                          try clear hfz86_4
                          try clear hfz88_0
                          try clear hfz88_1
                          try clear hfz88_2
                          try clear hfz88_3
                          try clear hfz88_4
                          try clear hfz8_0
                          try clear hfz8_1
                          try clear hfz8_2
                          try clear hfz8_3
                          try clear hfz9_0
                          try clear hfz9_1
                          try clear hfz9_2
                          try clear hfz9_3
                          try clear hfz9_4
                          try clear hx144_0
                          try clear p1
                          try clear p14
                          try clear p144
                          try clear p2
                          try clear p6
                          try clear p64
                          try clear q1
                          try clear q14
                          try clear q144
                          obtain ⟨kq, x123_82, rfl, HA, HJ82, BK139, BK140, HB⟩ := hcut
                          cases kq with
                          | zero => exact absurd HA.out (by simp [laws_FnSixelBack.j5])
                          | succ kj82 =>
                            have H := HA.out
                            clear HA
                            simp only [laws_FnSixelBack.j5] at H
                            by_cases c89 : x123_82 = true
                            · subst c89
                              have H1 : ((impl_WriteColor.f a3_0 a3_1 a3_2 a3_3 a3_4).bind fun t158 => (if t158.size + 1 ≤ 9223372036854775807 then (if (t158 ++ (⟨#[63]⟩ : ByteArray)).size ≤ 9223372036854775807 then ((impl_DecodeColor.f (bytesOf (t158 ++ (⟨#[63]⟩ : ByteArray)))).bind fun bt159 => (if (!(bt159.1 == a3_0) || (!(bt159.2.1 == a3_1) || (!(bt159.2.2.1 == a3_2) || (!(bt159.2.2.2.1 == a3_3) || (!(bt159.2.2.2.2.1 == a3_4)))))) = true then (some false) else (if bt159.2.2.2.2.2 = (t158.size : Int) then ((impl_WriteRepeat.f 2 97).bind fun t166 => (some (t166.toList == ([33, 50, 97] : List UInt8)))) else (some false)))) else (none)) else (none))) = some r := by rw [if_pos rfl] at H; exact H
                              clear H
                              have H := H1
                              clear H1
                              replace H := Option.bind_eq_some_iff.mp H
                              obtain ⟨t158, A900, H⟩ := H
                              replace H : (if t158.size + 1 ≤ 9223372036854775807 then (if (t158 ++ (⟨#[63]⟩ : ByteArray)).size ≤ 9223372036854775807 then ((impl_DecodeColor.f (bytesOf (t158 ++ (⟨#[63]⟩ : ByteArray)))).bind fun bt159 => (if (!(bt159.1 == a3_0) || (!(bt159.2.1 == a3_1) || (!(bt159.2.2.1 == a3_2) || (!(bt159.2.2.2.1 == a3_3) || (!(bt159.2.2.2.2.1 == a3_4)))))) = true then (some false) else (if bt159.2.2.2.2.2 = (t158.size : Int) then ((impl_WriteRepeat.f 2 97).bind fun t166 => (some (t166.toList == ([33, 50, 97] : List UInt8)))) else (some false)))) else (none)) else (none)) = some r := H
                              have A90 := Aside0.mk A900
                              clear A900
                              by_cases c91 : t158.size + 1 ≤ 9223372036854775807
                              · rw [if_pos c91] at H
                                have c91b0 := eq_true c91
                                have c91b1 : decide (t158.size + 1 ≤ 9223372036854775807) = true := decide_eq_true c91
                                try have c91b2 : (9223372036854775807 < t158.size + 1) = False := eq_false (Nat.not_lt.2 c91)
                                by_cases c92 : (t158 ++ (⟨#[63]⟩ : ByteArray)).size ≤ 9223372036854775807
                                · rw [if_pos c92] at H
                                  have c92b0 := eq_true c92
                                  have c92b1 : decide ((t158 ++ (⟨#[63]⟩ : ByteArray)).size ≤ 9223372036854775807) = true := decide_eq_true c92
                                  try have c92b2 : (9223372036854775807 < (t158 ++ (⟨#[63]⟩ : ByteArray)).size) = False := eq_false (Nat.not_lt.2 c92)
                                  replace H := Option.bind_eq_some_iff.mp H
                                  obtain ⟨⟨t159, t160, t161, t162, t163, t164⟩, A930, H⟩ := H
                                  replace H : (if (!(t159 == a3_0) || (!(t160 == a3_1) || (!(t161 == a3_2) || (!(t162 == a3_3) || (!(t163 == a3_4)))))) = true then (some false) else (if t164 = (t158.size : Int) then ((impl_WriteRepeat.f 2 97).bind fun t166 => (some (t166.toList == ([33, 50, 97] : List UInt8)))) else (some false))) = some r := H
                                  have A93 := Aside0.mk A930
                                  clear A930
                                  by_cases c94 : (!(t159 == a3_0) || (!(t160 == a3_1) || (!(t161 == a3_2) || (!(t162 == a3_3) || (!(t163 == a3_4)))))) = true
                                  · rw [if_pos c94] at H
                                    have c94b0 : (!(t159 == a3_0) || (!(t160 == a3_1) || (!(t161 == a3_2) || (!(t162 == a3_3) || (!(t163 == a3_4)))))) = true := c94
                                    clear c94
                                    obtain rfl := Option.some.inj H
                                    have hnb95 := NB140_139.out
                                    have hnc95 := NB139_140.out
                                    have hcz96_0 : wc.cell? ⟨gb140, 0, none⟩ = some (.int .i64 a3_0) := (blk_cell BK140.out 0).trans rfl
                                    have hcz96_1 : wc.cell? ⟨gb140, 1, none⟩ = some (.int .i64 a3_1) := (blk_cell BK140.out 1).trans rfl
                                    have hcz96_2 : wc.cell? ⟨gb140, 2, none⟩ = some (.int .i64 a3_2) := (blk_cell BK140.out 2).trans rfl
                                    have hcz96_3 : wc.cell? ⟨gb140, 3, none⟩ = some (.int .i64 a3_3) := (blk_cell BK140.out 3).trans rfl
                                    have hcz96_4 : wc.cell? ⟨gb140, 4, none⟩ = some (.int .i64 a3_4) := (blk_cell BK140.out 4).trans rfl
                                    have hfz96_0 := blk_frozen BK140.out 0
                                    have hfz96_1 := blk_frozen BK140.out 1
                                    have hfz96_2 := blk_frozen BK140.out 2
                                    have hfz96_3 := blk_frozen BK140.out 3
                                    have hfz96_4 := blk_frozen BK140.out 4
                                    go_wp2_with (first | ((with_reducible refine gate_callee (f := 7) rfl ?_); refine goesL_ (some 125) rfl rfl Tryd.func7 (by kernel_rfl) rfl #[.agg #[.int .i64 a3_0, .int .i64 a3_1, .int .i64 a3_2, .int .i64 a3_3, .int .i64 a3_4]] rfl (by (try simp only [List.map_toArray, List.map_cons, List.map_nil]); first | done | rfl | (simp only [List.length_drop, List.length_take]; rfl) | (simp [Act.eval, *]; done) | (simp [Act.eval, *]; unfold wrap64; omega)) ?_; (with_reducible refine (impl_WriteColor.calls a3_0 a3_1 a3_2 a3_3 a3_4 t158 _ ?side1 A90.out).mono ?_); (case side1 => exact HLD.out.below (by repeat (first | (with_reducible first | exact HB.out | apply below_alloc | apply Go.Proofs.YtjicpadeplminaaDoor.Ext.below_bytes | apply pw_below_drewN | apply below_drew1 | refine below_set ?_ GE139.out | refine below_set ?_ GE140.out) | exact HB.out))); rintro e w97 ⟨rfl, hb⟩; refine ⟨_, rfl, ?_⟩; have n0_ := Aside0.mk (blk_below (g := gb139) (o := .cells #[.int .i64 a0_0, .int .i64 a0_1, .int .i64 a0_2, .int .i64 a0_3] 33 (0, 0)) (by (with_reducible repeat (first | refine blk_drewN ?_ _ | refine blk_drew ?_ | refine blk_alloc ?_ _ | refine Go.Proofs.YtjicpadeplminaaDoor.Back.blk_bytes ?_)); exact BK139.out) hb); have n1_ := Aside0.mk (blk_below (g := gb140) (o := .cells #[.int .i64 a3_0, .int .i64 a3_1, .int .i64 a3_2, .int .i64 a3_3, .int .i64 a3_4] 23 (0, 0)) (by (with_reducible repeat (first | refine blk_drewN ?_ _ | refine blk_drew ?_ | refine blk_alloc ?_ _ | refine Go.Proofs.YtjicpadeplminaaDoor.Back.blk_bytes ?_)); exact BK140.out) hb); have n2_ := Aside0.mk (below_step (by repeat (first | (with_reducible first | exact HB.out | apply below_alloc | apply Go.Proofs.YtjicpadeplminaaDoor.Ext.below_bytes | apply pw_below_drewN | apply below_drew1 | refine below_set ?_ GE139.out | refine below_set ?_ GE140.out) | exact HB.out)) hb); clear BK139; clear BK140; clear HB; have BK139 := n0_; have BK140 := n1_; have HB := n2_; clear n0_ n1_ n2_; (try clear hb); (try clear hb2); (try clear hk); (try clear hi)) | (go_at_call 17; (with_reducible refine Go.Proofs.YtjicpadeplminaaDoor.Back.calls_len (m := (bytesOf (t158 ++ (⟨#[63]⟩ : ByteArray))).length) (k := ((t158 ++ (⟨#[63]⟩ : ByteArray))).size) (bytesOf_length _) (Go.Proofs.YtjicpadeplminaaDoor.Back.size_one _ _) ?_); (refine (impl_DecodeColor.calls _ _ (bytesOf (t158 ++ (⟨#[63]⟩ : ByteArray))) t159 t160 t161 t162 t163 t164 _ ?side1 ?side2 A93.out).mono ?_); (case side1 => exact Go.Proofs.YtjicpadeplminaaDoor.Ext.C_bytes _ _ (t158 ++ (⟨#[63]⟩ : ByteArray)) (of_decide_eq_true (by first | (with_reducible assumption) | assumption))); (case side2 => exact Go.Proofs.YtjicpadeplminaaDoor.Back.bytes_room_at _ _ _ (Go.Proofs.YtjicpadeplminaaDoor.Back.size_one _ _)); rintro e w98 ⟨rfl, hb⟩; have n0_ := Aside0.mk (blk_below (g := gb139) (o := .cells #[.int .i64 a0_0, .int .i64 a0_1, .int .i64 a0_2, .int .i64 a0_3] 33 (0, 0)) (by (with_reducible repeat (first | refine blk_drewN ?_ _ | refine blk_drew ?_ | refine blk_alloc ?_ _ | refine Go.Proofs.YtjicpadeplminaaDoor.Back.blk_bytes ?_)); exact BK139.out) hb); have n1_ := Aside0.mk (blk_below (g := gb140) (o := .cells #[.int .i64 a3_0, .int .i64 a3_1, .int .i64 a3_2, .int .i64 a3_3, .int .i64 a3_4] 23 (0, 0)) (by (with_reducible repeat (first | refine blk_drewN ?_ _ | refine blk_drew ?_ | refine blk_alloc ?_ _ | refine Go.Proofs.YtjicpadeplminaaDoor.Back.blk_bytes ?_)); exact BK140.out) hb); have n2_ := Aside0.mk (below_step (by repeat (first | (with_reducible first | exact HB.out | apply below_alloc | apply Go.Proofs.YtjicpadeplminaaDoor.Ext.below_bytes | apply pw_below_drewN | apply below_drew1 | refine below_set ?_ GE139.out | refine below_set ?_ GE140.out) | exact HB.out)) hb); clear BK139; clear BK140; clear HB; have BK139 := n0_; have BK140 := n1_; have HB := n2_; clear n0_ n1_ n2_; (try clear hb); (try clear hb2); (try clear hk); (try clear hi)) | ((with_reducible refine gate_dst (N := 19) rfl ?_); (try (refine gate_guard (by rfl) ?_; dsimp only)); refine box_event ?hg (N := 19) ?hd (cs := #[.int .i64 0, .int .i64 0, .int .i64 0, .int .i64 0, .int .i64 0]) (t := 23) ?hr ?_; (case hd => rfl); (case hg => rfl); (case hr => first | (go_simp; done) | (go_simp; rfl)); intro gb165 hg w99 hbox hb; have n0_ := Aside0.mk (blk_below (g := gb139) (o := .cells #[.int .i64 a0_0, .int .i64 a0_1, .int .i64 a0_2, .int .i64 a0_3] 33 (0, 0)) (by (with_reducible repeat (first | refine blk_drewN ?_ _ | refine blk_drew ?_ | refine blk_alloc ?_ _ | refine Go.Proofs.YtjicpadeplminaaDoor.Back.blk_bytes ?_)); exact BK139.out) hb); have n1_ := Aside0.mk (blk_below (g := gb140) (o := .cells #[.int .i64 a3_0, .int .i64 a3_1, .int .i64 a3_2, .int .i64 a3_3, .int .i64 a3_4] 23 (0, 0)) (by (with_reducible repeat (first | refine blk_drewN ?_ _ | refine blk_drew ?_ | refine blk_alloc ?_ _ | refine Go.Proofs.YtjicpadeplminaaDoor.Back.blk_bytes ?_)); exact BK140.out) hb); have n2_ := Aside0.mk (below_step (by repeat (first | (with_reducible first | exact HB.out | apply below_alloc | apply Go.Proofs.YtjicpadeplminaaDoor.Ext.below_bytes | apply pw_below_drewN | apply below_drew1 | refine below_set ?_ GE139.out | refine below_set ?_ GE140.out) | exact HB.out)) hb); have n3_ := Aside0.mk (hbox); have n4_ := Aside0.mk ((by rw [hg]; exact (below_size (by repeat (first | (with_reducible first | exact HB.out | apply below_alloc | apply Go.Proofs.YtjicpadeplminaaDoor.Ext.below_bytes | apply pw_below_drewN | apply below_drew1 | refine below_set ?_ GE139.out | refine below_set ?_ GE140.out) | exact HB.out))) : w.heap.size ≤ gb165)); have n5_ := Aside0.mk ((by rw [hg]; exact (below_size (by repeat (first | (with_reducible first | exact HB.out | apply below_alloc | apply Go.Proofs.YtjicpadeplminaaDoor.Ext.below_bytes | apply pw_below_drewN | apply below_drew1 | refine below_set ?_ GE139.out | refine below_set ?_ GE140.out) | exact HB.out))) : w.heap.size ≤ gb165)); have n6_ := Aside0.mk ((by rw [hg]; exact Nat.ne_of_lt (blk_lt (g := gb139) (o := .cells #[.int .i64 a0_0, .int .i64 a0_1, .int .i64 a0_2, .int .i64 a0_3] 33 (0, 0)) (by (with_reducible repeat (first | refine blk_drewN ?_ _ | refine blk_drew ?_ | refine blk_alloc ?_ _ | refine Go.Proofs.YtjicpadeplminaaDoor.Back.blk_bytes ?_)); exact BK139.out)) : gb139 ≠ gb165)); have n7_ := Aside0.mk ((by rw [hg]; exact Nat.ne_of_gt (blk_lt (g := gb139) (o := .cells #[.int .i64 a0_0, .int .i64 a0_1, .int .i64 a0_2, .int .i64 a0_3] 33 (0, 0)) (by (with_reducible repeat (first | refine blk_drewN ?_ _ | refine blk_drew ?_ | refine blk_alloc ?_ _ | refine Go.Proofs.YtjicpadeplminaaDoor.Back.blk_bytes ?_)); exact BK139.out)) : gb165 ≠ gb139)); have n8_ := Aside0.mk ((by rw [hg]; exact Nat.ne_of_lt (blk_lt (g := gb140) (o := .cells #[.int .i64 a3_0, .int .i64 a3_1, .int .i64 a3_2, .int .i64 a3_3, .int .i64 a3_4] 23 (0, 0)) (by (with_reducible repeat (first | refine blk_drewN ?_ _ | refine blk_drew ?_ | refine blk_alloc ?_ _ | refine Go.Proofs.YtjicpadeplminaaDoor.Back.blk_bytes ?_)); exact BK140.out)) : gb140 ≠ gb165)); have n9_ := Aside0.mk ((by rw [hg]; exact Nat.ne_of_gt (blk_lt (g := gb140) (o := .cells #[.int .i64 a3_0, .int .i64 a3_1, .int .i64 a3_2, .int .i64 a3_3, .int .i64 a3_4] 23 (0, 0)) (by (with_reducible repeat (first | refine blk_drewN ?_ _ | refine blk_drew ?_ | refine blk_alloc ?_ _ | refine Go.Proofs.YtjicpadeplminaaDoor.Back.blk_bytes ?_)); exact BK140.out)) : gb165 ≠ gb140)); clear BK139; clear BK140; clear HB; have BK139 := n0_; have BK140 := n1_; have HB := n2_; have BK165 := n3_; have GW165 := n4_; have GE165 := n5_; have NB139_165 := n6_; have NB165_139 := n7_; have NB140_165 := n8_; have NB165_140 := n9_; clear n0_ n1_ n2_ n3_ n4_ n5_ n6_ n7_ n8_ n9_; clear hb hbox hg; have hnb100 := NB165_139.out; have hnc100 := NB139_165.out; have hnb101 := NB165_140.out; have hnc101 := NB140_165.out; have hcz102_0 : w99.cell? ⟨gb165, 0, none⟩ = some (.int .i64 0) := (blk_cell BK165.out 0).trans rfl; have hcz102_1 : w99.cell? ⟨gb165, 1, none⟩ = some (.int .i64 0) := (blk_cell BK165.out 1).trans rfl; have hcz102_2 : w99.cell? ⟨gb165, 2, none⟩ = some (.int .i64 0) := (blk_cell BK165.out 2).trans rfl; have hcz102_3 : w99.cell? ⟨gb165, 3, none⟩ = some (.int .i64 0) := (blk_cell BK165.out 3).trans rfl; have hcz102_4 : w99.cell? ⟨gb165, 4, none⟩ = some (.int .i64 0) := (blk_cell BK165.out 4).trans rfl; have hfz102_0 := blk_frozen BK165.out 0; have hfz102_1 := blk_frozen BK165.out 1; have hfz102_2 := blk_frozen BK165.out 2; have hfz102_3 := blk_frozen BK165.out 3; have hfz102_4 := blk_frozen BK165.out 4; have hcz103_0 : w99.cell? ⟨gb140, 0, none⟩ = some (.int .i64 a3_0) := (blk_cell BK140.out 0).trans rfl; have hcz103_1 : w99.cell? ⟨gb140, 1, none⟩ = some (.int .i64 a3_1) := (blk_cell BK140.out 1).trans rfl; have hcz103_2 : w99.cell? ⟨gb140, 2, none⟩ = some (.int .i64 a3_2) := (blk_cell BK140.out 2).trans rfl; have hcz103_3 : w99.cell? ⟨gb140, 3, none⟩ = some (.int .i64 a3_3) := (blk_cell BK140.out 3).trans rfl; have hcz103_4 : w99.cell? ⟨gb140, 4, none⟩ = some (.int .i64 a3_4) := (blk_cell BK140.out 4).trans rfl; have hfz103_0 := blk_frozen BK140.out 0; have hfz103_1 := blk_frozen BK140.out 1; have hfz103_2 := blk_frozen BK140.out 2; have hfz103_3 := blk_frozen BK140.out 3; have hfz103_4 := blk_frozen BK140.out 4))
                                    go_ret
                                    exact ⟨by first | rfl | (simp [errW_none, errW_some] <;> rfl) | (simp [*, errW_none, errW_some] <;> rfl), by repeat (first | (with_reducible first | exact HB.out | apply below_alloc | apply Go.Proofs.YtjicpadeplminaaDoor.Ext.below_bytes | apply pw_below_drewN | apply below_drew1 | refine below_set ?_ GE139.out | refine below_set ?_ GE140.out | refine below_set ?_ GE165.out) | exact HB.out)⟩
                                  · rw [if_neg c94] at H
                                    have c94b0 : (!(t159 == a3_0) || (!(t160 == a3_1) || (!(t161 == a3_2) || (!(t162 == a3_3) || (!(t163 == a3_4)))))) = false := by simpa using c94
                                    clear c94
                                    by_cases c104 : t164 = (t158.size : Int)
                                    · rw [if_pos c104] at H
                                      have c104b0 : (t164 == (t158.size : Int)) = true := beq_iff_eq.mpr c104
                                      have c104b1 : (t164 != (t158.size : Int)) = false := bne_eq_false_iff_eq.mpr c104
                                      clear c104
                                      replace H := Option.bind_eq_some_iff.mp H
                                      obtain ⟨t166, A1050, H⟩ := H
                                      replace H : (some (t166.toList == ([33, 50, 97] : List UInt8))) = some r := H
                                      have A105 := Aside0.mk A1050
                                      clear A1050
                                      obtain rfl := Option.some.inj H
                                      have hnb106 := NB140_139.out
                                      have hnc106 := NB139_140.out
                                      have hcz107_0 : wc.cell? ⟨gb140, 0, none⟩ = some (.int .i64 a3_0) := (blk_cell BK140.out 0).trans rfl
                                      have hcz107_1 : wc.cell? ⟨gb140, 1, none⟩ = some (.int .i64 a3_1) := (blk_cell BK140.out 1).trans rfl
                                      have hcz107_2 : wc.cell? ⟨gb140, 2, none⟩ = some (.int .i64 a3_2) := (blk_cell BK140.out 2).trans rfl
                                      have hcz107_3 : wc.cell? ⟨gb140, 3, none⟩ = some (.int .i64 a3_3) := (blk_cell BK140.out 3).trans rfl
                                      have hcz107_4 : wc.cell? ⟨gb140, 4, none⟩ = some (.int .i64 a3_4) := (blk_cell BK140.out 4).trans rfl
                                      have hfz107_0 := blk_frozen BK140.out 0
                                      have hfz107_1 := blk_frozen BK140.out 1
                                      have hfz107_2 := blk_frozen BK140.out 2
                                      have hfz107_3 := blk_frozen BK140.out 3
                                      have hfz107_4 := blk_frozen BK140.out 4
                                      go_wp2_with (first | ((with_reducible refine gate_callee (f := 7) rfl ?_); refine goesL_ (some 125) rfl rfl Tryd.func7 (by kernel_rfl) rfl #[.agg #[.int .i64 a3_0, .int .i64 a3_1, .int .i64 a3_2, .int .i64 a3_3, .int .i64 a3_4]] rfl (by (try simp only [List.map_toArray, List.map_cons, List.map_nil]); first | done | rfl | (simp only [List.length_drop, List.length_take]; rfl) | (simp [Act.eval, *]; done) | (simp [Act.eval, *]; unfold wrap64; omega)) ?_; (with_reducible refine (impl_WriteColor.calls a3_0 a3_1 a3_2 a3_3 a3_4 t158 _ ?side1 A90.out).mono ?_); (case side1 => exact HLD.out.below (by repeat (first | (with_reducible first | exact HB.out | apply below_alloc | apply Go.Proofs.YtjicpadeplminaaDoor.Ext.below_bytes | apply pw_below_drewN | apply below_drew1 | refine below_set ?_ GE139.out | refine below_set ?_ GE140.out) | exact HB.out))); rintro e w108 ⟨rfl, hb⟩; refine ⟨_, rfl, ?_⟩; have n0_ := Aside0.mk (blk_below (g := gb139) (o := .cells #[.int .i64 a0_0, .int .i64 a0_1, .int .i64 a0_2, .int .i64 a0_3] 33 (0, 0)) (by (with_reducible repeat (first | refine blk_drewN ?_ _ | refine blk_drew ?_ | refine blk_alloc ?_ _ | refine Go.Proofs.YtjicpadeplminaaDoor.Back.blk_bytes ?_)); exact BK139.out) hb); have n1_ := Aside0.mk (blk_below (g := gb140) (o := .cells #[.int .i64 a3_0, .int .i64 a3_1, .int .i64 a3_2, .int .i64 a3_3, .int .i64 a3_4] 23 (0, 0)) (by (with_reducible repeat (first | refine blk_drewN ?_ _ | refine blk_drew ?_ | refine blk_alloc ?_ _ | refine Go.Proofs.YtjicpadeplminaaDoor.Back.blk_bytes ?_)); exact BK140.out) hb); have n2_ := Aside0.mk (below_step (by repeat (first | (with_reducible first | exact HB.out | apply below_alloc | apply Go.Proofs.YtjicpadeplminaaDoor.Ext.below_bytes | apply pw_below_drewN | apply below_drew1 | refine below_set ?_ GE139.out | refine below_set ?_ GE140.out) | exact HB.out)) hb); clear BK139; clear BK140; clear HB; have BK139 := n0_; have BK140 := n1_; have HB := n2_; clear n0_ n1_ n2_; (try clear hb); (try clear hb2); (try clear hk); (try clear hi)) | (go_at_call 17; (with_reducible refine Go.Proofs.YtjicpadeplminaaDoor.Back.calls_len (m := (bytesOf (t158 ++ (⟨#[63]⟩ : ByteArray))).length) (k := ((t158 ++ (⟨#[63]⟩ : ByteArray))).size) (bytesOf_length _) (Go.Proofs.YtjicpadeplminaaDoor.Back.size_one _ _) ?_); (refine (impl_DecodeColor.calls _ _ (bytesOf (t158 ++ (⟨#[63]⟩ : ByteArray))) t159 t160 t161 t162 t163 t164 _ ?side1 ?side2 A93.out).mono ?_); (case side1 => exact Go.Proofs.YtjicpadeplminaaDoor.Ext.C_bytes _ _ (t158 ++ (⟨#[63]⟩ : ByteArray)) (of_decide_eq_true (by first | (with_reducible assumption) | assumption))); (case side2 => exact Go.Proofs.YtjicpadeplminaaDoor.Back.bytes_room_at _ _ _ (Go.Proofs.YtjicpadeplminaaDoor.Back.size_one _ _)); rintro e w109 ⟨rfl, hb⟩; have n0_ := Aside0.mk (blk_below (g := gb139) (o := .cells #[.int .i64 a0_0, .int .i64 a0_1, .int .i64 a0_2, .int .i64 a0_3] 33 (0, 0)) (by (with_reducible repeat (first | refine blk_drewN ?_ _ | refine blk_drew ?_ | refine blk_alloc ?_ _ | refine Go.Proofs.YtjicpadeplminaaDoor.Back.blk_bytes ?_)); exact BK139.out) hb); have n1_ := Aside0.mk (blk_below (g := gb140) (o := .cells #[.int .i64 a3_0, .int .i64 a3_1, .int .i64 a3_2, .int .i64 a3_3, .int .i64 a3_4] 23 (0, 0)) (by (with_reducible repeat (first | refine blk_drewN ?_ _ | refine blk_drew ?_ | refine blk_alloc ?_ _ | refine Go.Proofs.YtjicpadeplminaaDoor.Back.blk_bytes ?_)); exact BK140.out) hb); have n2_ := Aside0.mk (below_step (by repeat (first | (with_reducible first | exact HB.out | apply below_alloc | apply Go.Proofs.YtjicpadeplminaaDoor.Ext.below_bytes | apply pw_below_drewN | apply below_drew1 | refine below_set ?_ GE139.out | refine below_set ?_ GE140.out) | exact HB.out)) hb); clear BK139; clear BK140; clear HB; have BK139 := n0_; have BK140 := n1_; have HB := n2_; clear n0_ n1_ n2_; (try clear hb); (try clear hb2); (try clear hk); (try clear hi)) | ((with_reducible refine gate_dst (N := 19) rfl ?_); (try (refine gate_guard (by rfl) ?_; dsimp only)); refine box_event ?hg (N := 19) ?hd (cs := #[.int .i64 0, .int .i64 0, .int .i64 0, .int .i64 0, .int .i64 0]) (t := 23) ?hr ?_; (case hd => rfl); (case hg => rfl); (case hr => first | (go_simp; done) | (go_simp; rfl)); intro gb165 hg w110 hbox hb; have n0_ := Aside0.mk (blk_below (g := gb139) (o := .cells #[.int .i64 a0_0, .int .i64 a0_1, .int .i64 a0_2, .int .i64 a0_3] 33 (0, 0)) (by (with_reducible repeat (first | refine blk_drewN ?_ _ | refine blk_drew ?_ | refine blk_alloc ?_ _ | refine Go.Proofs.YtjicpadeplminaaDoor.Back.blk_bytes ?_)); exact BK139.out) hb); have n1_ := Aside0.mk (blk_below (g := gb140) (o := .cells #[.int .i64 a3_0, .int .i64 a3_1, .int .i64 a3_2, .int .i64 a3_3, .int .i64 a3_4] 23 (0, 0)) (by (with_reducible repeat (first | refine blk_drewN ?_ _ | refine blk_drew ?_ | refine blk_alloc ?_ _ | refine Go.Proofs.YtjicpadeplminaaDoor.Back.blk_bytes ?_)); exact BK140.out) hb); have n2_ := Aside0.mk (below_step (by repeat (first | (with_reducible first | exact HB.out | apply below_alloc | apply Go.Proofs.YtjicpadeplminaaDoor.Ext.below_bytes | apply pw_below_drewN | apply below_drew1 | refine below_set ?_ GE139.out | refine below_set ?_ GE140.out) | exact HB.out)) hb); have n3_ := Aside0.mk (hbox); have n4_ := Aside0.mk ((by rw [hg]; exact (below_size (by repeat (first | (with_reducible first | exact HB.out | apply below_alloc | apply Go.Proofs.YtjicpadeplminaaDoor.Ext.below_bytes | apply pw_below_drewN | apply below_drew1 | refine below_set ?_ GE139.out | refine below_set ?_ GE140.out) | exact HB.out))) : w.heap.size ≤ gb165)); have n5_ := Aside0.mk ((by rw [hg]; exact (below_size (by repeat (first | (with_reducible first | exact HB.out | apply below_alloc | apply Go.Proofs.YtjicpadeplminaaDoor.Ext.below_bytes | apply pw_below_drewN | apply below_drew1 | refine below_set ?_ GE139.out | refine below_set ?_ GE140.out) | exact HB.out))) : w.heap.size ≤ gb165)); have n6_ := Aside0.mk ((by rw [hg]; exact Nat.ne_of_lt (blk_lt (g := gb139) (o := .cells #[.int .i64 a0_0, .int .i64 a0_1, .int .i64 a0_2, .int .i64 a0_3] 33 (0, 0)) (by (with_reducible repeat (first | refine blk_drewN ?_ _ | refine blk_drew ?_ | refine blk_alloc ?_ _ | refine Go.Proofs.YtjicpadeplminaaDoor.Back.blk_bytes ?_)); exact BK139.out)) : gb139 ≠ gb165)); have n7_ := Aside0.mk ((by rw [hg]; exact Nat.ne_of_gt (blk_lt (g := gb139) (o := .cells #[.int .i64 a0_0, .int .i64 a0_1, .int .i64 a0_2, .int .i64 a0_3] 33 (0, 0)) (by (with_reducible repeat (first | refine blk_drewN ?_ _ | refine blk_drew ?_ | refine blk_alloc ?_ _ | refine Go.Proofs.YtjicpadeplminaaDoor.Back.blk_bytes ?_)); exact BK139.out)) : gb165 ≠ gb139)); have n8_ := Aside0.mk ((by rw [hg]; exact Nat.ne_of_lt (blk_lt (g := gb140) (o := .cells #[.int .i64 a3_0, .int .i64 a3_1, .int .i64 a3_2, .int .i64 a3_3, .int .i64 a3_4] 23 (0, 0)) (by (with_reducible repeat (first | refine blk_drewN ?_ _ | refine blk_drew ?_ | refine blk_alloc ?_ _ | refine Go.Proofs.YtjicpadeplminaaDoor.Back.blk_bytes ?_)); exact BK140.out)) : gb140 ≠ gb165)); have n9_ := Aside0.mk ((by rw [hg]; exact Nat.ne_of_gt (blk_lt (g := gb140) (o := .cells #[.int .i64 a3_0, .int .i64 a3_1, .int .i64 a3_2, .int .i64 a3_3, .int .i64 a3_4] 23 (0, 0)) (by (with_reducible repeat (first | refine blk_drewN ?_ _ | refine blk_drew ?_ | refine blk_alloc ?_ _ | refine Go.Proofs.YtjicpadeplminaaDoor.Back.blk_bytes ?_)); exact BK140.out)) : gb165 ≠ gb140)); clear BK139; clear BK140; clear HB; have BK139 := n0_; have BK140 := n1_; have HB := n2_; have BK165 := n3_; have GW165 := n4_; have GE165 := n5_; have NB139_165 := n6_; have NB165_139 := n7_; have NB140_165 := n8_; have NB165_140 := n9_; clear n0_ n1_ n2_ n3_ n4_ n5_ n6_ n7_ n8_ n9_; clear hb hbox hg; have hnb111 := NB165_139.out; have hnc111 := NB139_165.out; have hnb112 := NB165_140.out; have hnc112 := NB140_165.out; have hcz113_0 : w110.cell? ⟨gb165, 0, none⟩ = some (.int .i64 0) := (blk_cell BK165.out 0).trans rfl; have hcz113_1 : w110.cell? ⟨gb165, 1, none⟩ = some (.int .i64 0) := (blk_cell BK165.out 1).trans rfl; have hcz113_2 : w110.cell? ⟨gb165, 2, none⟩ = some (.int .i64 0) := (blk_cell BK165.out 2).trans rfl; have hcz113_3 : w110.cell? ⟨gb165, 3, none⟩ = some (.int .i64 0) := (blk_cell BK165.out 3).trans rfl; have hcz113_4 : w110.cell? ⟨gb165, 4, none⟩ = some (.int .i64 0) := (blk_cell BK165.out 4).trans rfl; have hfz113_0 := blk_frozen BK165.out 0; have hfz113_1 := blk_frozen BK165.out 1; have hfz113_2 := blk_frozen BK165.out 2; have hfz113_3 := blk_frozen BK165.out 3; have hfz113_4 := blk_frozen BK165.out 4; have hcz114_0 : w110.cell? ⟨gb140, 0, none⟩ = some (.int .i64 a3_0) := (blk_cell BK140.out 0).trans rfl; have hcz114_1 : w110.cell? ⟨gb140, 1, none⟩ = some (.int .i64 a3_1) := (blk_cell BK140.out 1).trans rfl; have hcz114_2 : w110.cell? ⟨gb140, 2, none⟩ = some (.int .i64 a3_2) := (blk_cell BK140.out 2).trans rfl; have hcz114_3 : w110.cell? ⟨gb140, 3, none⟩ = some (.int .i64 a3_3) := (blk_cell BK140.out 3).trans rfl; have hcz114_4 : w110.cell? ⟨gb140, 4, none⟩ = some (.int .i64 a3_4) := (blk_cell BK140.out 4).trans rfl; have hfz114_0 := blk_frozen BK140.out 0; have hfz114_1 := blk_frozen BK140.out 1; have hfz114_2 := blk_frozen BK140.out 2; have hfz114_3 := blk_frozen BK140.out 3; have hfz114_4 := blk_frozen BK140.out 4) | ((with_reducible refine gate_callee (f := 9) rfl ?_); refine goesL_ (some 142) rfl rfl Tryd.func9 (by kernel_rfl) rfl #[.int .i64 2, .int .u8 97] rfl (by (try simp only [List.map_toArray, List.map_cons, List.map_nil]); first | done | rfl | (simp only [List.length_drop, List.length_take]; rfl) | (simp [Act.eval, *]; done) | (simp [Act.eval, *]; unfold wrap64; omega)) ?_; (with_reducible refine (impl_WriteRepeat.calls 2 97 t166 _ ?side1 A105.out).mono ?_); (case side1 => exact HLD.out.below (by repeat (first | (with_reducible first | exact HB.out | apply below_alloc | apply Go.Proofs.YtjicpadeplminaaDoor.Ext.below_bytes | apply pw_below_drewN | apply below_drew1 | refine below_set ?_ GE139.out | refine below_set ?_ GE140.out | refine below_set ?_ GE165.out) | exact HB.out))); rintro e w115 ⟨rfl, hb⟩; refine ⟨_, rfl, ?_⟩; have n0_ := Aside0.mk (blk_below (g := gb139) (o := .cells #[.int .i64 a0_0, .int .i64 a0_1, .int .i64 a0_2, .int .i64 a0_3] 33 (0, 0)) (by (with_reducible repeat (first | refine blk_drewN ?_ _ | refine blk_drew ?_ | refine blk_alloc ?_ _ | refine Go.Proofs.YtjicpadeplminaaDoor.Back.blk_bytes ?_)); refine blk_far ?_ NB139_165.out _; (with_reducible repeat (first | refine blk_drewN ?_ _ | refine blk_drew ?_ | refine blk_alloc ?_ _ | refine Go.Proofs.YtjicpadeplminaaDoor.Back.blk_bytes ?_)); refine blk_far ?_ NB139_165.out _; (with_reducible repeat (first | refine blk_drewN ?_ _ | refine blk_drew ?_ | refine blk_alloc ?_ _ | refine Go.Proofs.YtjicpadeplminaaDoor.Back.blk_bytes ?_)); refine blk_far ?_ NB139_165.out _; (with_reducible repeat (first | refine blk_drewN ?_ _ | refine blk_drew ?_ | refine blk_alloc ?_ _ | refine Go.Proofs.YtjicpadeplminaaDoor.Back.blk_bytes ?_)); refine blk_far ?_ NB139_165.out _; (with_reducible repeat (first | refine blk_drewN ?_ _ | refine blk_drew ?_ | refine blk_alloc ?_ _ | refine Go.Proofs.YtjicpadeplminaaDoor.Back.blk_bytes ?_)); refine blk_far ?_ NB139_165.out _; (with_reducible repeat (first | refine blk_drewN ?_ _ | refine blk_drew ?_ | refine blk_alloc ?_ _ | refine Go.Proofs.YtjicpadeplminaaDoor.Back.blk_bytes ?_)); exact BK139.out) hb); have n1_ := Aside0.mk (blk_below (g := gb140) (o := .cells #[.int .i64 a3_0, .int .i64 a3_1, .int .i64 a3_2, .int .i64 a3_3, .int .i64 a3_4] 23 (0, 0)) (by (with_reducible repeat (first | refine blk_drewN ?_ _ | refine blk_drew ?_ | refine blk_alloc ?_ _ | refine Go.Proofs.YtjicpadeplminaaDoor.Back.blk_bytes ?_)); refine blk_far ?_ NB140_165.out _; (with_reducible repeat (first | refine blk_drewN ?_ _ | refine blk_drew ?_ | refine blk_alloc ?_ _ | refine Go.Proofs.YtjicpadeplminaaDoor.Back.blk_bytes ?_)); refine blk_far ?_ NB140_165.out _; (with_reducible repeat (first | refine blk_drewN ?_ _ | refine blk_drew ?_ | refine blk_alloc ?_ _ | refine Go.Proofs.YtjicpadeplminaaDoor.Back.blk_bytes ?_)); refine blk_far ?_ NB140_165.out _; (with_reducible repeat (first | refine blk_drewN ?_ _ | refine blk_drew ?_ | refine blk_alloc ?_ _ | refine Go.Proofs.YtjicpadeplminaaDoor.Back.blk_bytes ?_)); refine blk_far ?_ NB140_165.out _; (with_reducible repeat (first | refine blk_drewN ?_ _ | refine blk_drew ?_ | refine blk_alloc ?_ _ | refine Go.Proofs.YtjicpadeplminaaDoor.Back.blk_bytes ?_)); refine blk_far ?_ NB140_165.out _; (with_reducible repeat (first | refine blk_drewN ?_ _ | refine blk_drew ?_ | refine blk_alloc ?_ _ | refine Go.Proofs.YtjicpadeplminaaDoor.Back.blk_bytes ?_)); exact BK140.out) hb); have n2_ := Aside0.mk (blk_below (g := gb165) (o := .cells #[.int .i64 t159, .int .i64 t160, .int .i64 t161, .int .i64 t162, .int .i64 t163] 23 (0, 0)) (by (with_reducible repeat (first | refine blk_drewN ?_ _ | refine blk_drew ?_ | refine blk_alloc ?_ _ | refine Go.Proofs.YtjicpadeplminaaDoor.Back.blk_bytes ?_)); refine blk_put (cs := #[.int .i64 t159, .int .i64 t160, .int .i64 t161, .int .i64 t162, .int .i64 0]) ?_ 4 _ rfl; (with_reducible repeat (first | refine blk_drewN ?_ _ | refine blk_drew ?_ | refine blk_alloc ?_ _ | refine Go.Proofs.YtjicpadeplminaaDoor.Back.blk_bytes ?_)); refine blk_put (cs := #[.int .i64 t159, .int .i64 t160, .int .i64 t161, .int .i64 0, .int .i64 0]) ?_ 3 _ rfl; (with_reducible repeat (first | refine blk_drewN ?_ _ | refine blk_drew ?_ | refine blk_alloc ?_ _ | refine Go.Proofs.YtjicpadeplminaaDoor.Back.blk_bytes ?_)); refine blk_put (cs := #[.int .i64 t159, .int .i64 t160, .int .i64 0, .int .i64 0, .int .i64 0]) ?_ 2 _ rfl; (with_reducible repeat (first | refine blk_drewN ?_ _ | refine blk_drew ?_ | refine blk_alloc ?_ _ | refine Go.Proofs.YtjicpadeplminaaDoor.Back.blk_bytes ?_)); refine blk_put (cs := #[.int .i64 t159, .int .i64 0, .int .i64 0, .int .i64 0, .int .i64 0]) ?_ 1 _ rfl; (with_reducible repeat (first | refine blk_drewN ?_ _ | refine blk_drew ?_ | refine blk_alloc ?_ _ | refine Go.Proofs.YtjicpadeplminaaDoor.Back.blk_bytes ?_)); refine blk_put (cs := #[.int .i64 0, .int .i64 0, .int .i64 0, .int .i64 0, .int .i64 0]) ?_ 0 _ rfl; (with_reducible repeat (first | refine blk_drewN ?_ _ | refine blk_drew ?_ | refine blk_alloc ?_ _ | refine Go.Proofs.YtjicpadeplminaaDoor.Back.blk_bytes ?_)); exact BK165.out) hb); have n3_ := Aside0.mk (below_step (by repeat (first | (with_reducible first | exact HB.out | apply below_alloc | apply Go.Proofs.YtjicpadeplminaaDoor.Ext.below_bytes | apply pw_below_drewN | apply below_drew1 | refine below_set ?_ GE139.out | refine below_set ?_ GE140.out | refine below_set ?_ GE165.out) | exact HB.out)) hb); clear BK139; clear BK140; clear BK165; clear HB; have BK139 := n0_; have BK140 := n1_; have BK165 := n2_; have HB := n3_; clear n0_ n1_ n2_ n3_; (try clear hb); (try clear hb2); (try clear hk); (try clear hi)))
                                      go_ret
                                      exact ⟨by first | rfl | (simp [errW_none, errW_some] <;> rfl) | (simp [*, errW_none, errW_some] <;> rfl), by repeat (first | (with_reducible first | exact HB.out | apply below_alloc | apply Go.Proofs.YtjicpadeplminaaDoor.Ext.below_bytes | apply pw_below_drewN | apply below_drew1 | refine below_set ?_ GE139.out | refine below_set ?_ GE140.out | refine below_set ?_ GE165.out) | exact HB.out)⟩
                                    · rw [if_neg c104] at H
                                      have c104b0 : (t164 == (t158.size : Int)) = false := beq_eq_false_iff_ne.mpr c104
                                      have c104b1 : (t164 != (t158.size : Int)) = true := bne_iff_ne.mpr c104
                                      obtain rfl := Option.some.inj H
                                      have hnb116 := NB140_139.out
                                      have hnc116 := NB139_140.out
                                      have hcz117_0 : wc.cell? ⟨gb140, 0, none⟩ = some (.int .i64 a3_0) := (blk_cell BK140.out 0).trans rfl
                                      have hcz117_1 : wc.cell? ⟨gb140, 1, none⟩ = some (.int .i64 a3_1) := (blk_cell BK140.out 1).trans rfl
                                      have hcz117_2 : wc.cell? ⟨gb140, 2, none⟩ = some (.int .i64 a3_2) := (blk_cell BK140.out 2).trans rfl
                                      have hcz117_3 : wc.cell? ⟨gb140, 3, none⟩ = some (.int .i64 a3_3) := (blk_cell BK140.out 3).trans rfl
                                      have hcz117_4 : wc.cell? ⟨gb140, 4, none⟩ = some (.int .i64 a3_4) := (blk_cell BK140.out 4).trans rfl
                                      have hfz117_0 := blk_frozen BK140.out 0
                                      have hfz117_1 := blk_frozen BK140.out 1
                                      have hfz117_2 := blk_frozen BK140.out 2
                                      have hfz117_3 := blk_frozen BK140.out 3
                                      have hfz117_4 := blk_frozen BK140.out 4
                                      go_wp2_with (first | ((with_reducible refine gate_callee (f := 7) rfl ?_); refine goesL_ (some 125) rfl rfl Tryd.func7 (by kernel_rfl) rfl #[.agg #[.int .i64 a3_0, .int .i64 a3_1, .int .i64 a3_2, .int .i64 a3_3, .int .i64 a3_4]] rfl (by (try simp only [List.map_toArray, List.map_cons, List.map_nil]); first | done | rfl | (simp only [List.length_drop, List.length_take]; rfl) | (simp [Act.eval, *]; done) | (simp [Act.eval, *]; unfold wrap64; omega)) ?_; (with_reducible refine (impl_WriteColor.calls a3_0 a3_1 a3_2 a3_3 a3_4 t158 _ ?side1 A90.out).mono ?_); (case side1 => exact HLD.out.below (by repeat (first | (with_reducible first | exact HB.out | apply below_alloc | apply Go.Proofs.YtjicpadeplminaaDoor.Ext.below_bytes | apply pw_below_drewN | apply below_drew1 | refine below_set ?_ GE139.out | refine below_set ?_ GE140.out) | exact HB.out))); rintro e w118 ⟨rfl, hb⟩; refine ⟨_, rfl, ?_⟩; have n0_ := Aside0.mk (blk_below (g := gb139) (o := .cells #[.int .i64 a0_0, .int .i64 a0_1, .int .i64 a0_2, .int .i64 a0_3] 33 (0, 0)) (by (with_reducible repeat (first | refine blk_drewN ?_ _ | refine blk_drew ?_ | refine blk_alloc ?_ _ | refine Go.Proofs.YtjicpadeplminaaDoor.Back.blk_bytes ?_)); exact BK139.out) hb); have n1_ := Aside0.mk (blk_below (g := gb140) (o := .cells #[.int .i64 a3_0, .int .i64 a3_1, .int .i64 a3_2, .int .i64 a3_3, .int .i64 a3_4] 23 (0, 0)) (by (with_reducible repeat (first | refine blk_drewN ?_ _ | refine blk_drew ?_ | refine blk_alloc ?_ _ | refine Go.Proofs.YtjicpadeplminaaDoor.Back.blk_bytes ?_)); exact BK140.out) hb); have n2_ := Aside0.mk (below_step (by repeat (first | (with_reducible first | exact HB.out | apply below_alloc | apply Go.Proofs.YtjicpadeplminaaDoor.Ext.below_bytes | apply pw_below_drewN | apply below_drew1 | refine below_set ?_ GE139.out | refine below_set ?_ GE140.out) | exact HB.out)) hb); clear BK139; clear BK140; clear HB; have BK139 := n0_; have BK140 := n1_; have HB := n2_; clear n0_ n1_ n2_; (try clear hb); (try clear hb2); (try clear hk); (try clear hi)) | (go_at_call 17; (with_reducible refine Go.Proofs.YtjicpadeplminaaDoor.Back.calls_len (m := (bytesOf (t158 ++ (⟨#[63]⟩ : ByteArray))).length) (k := ((t158 ++ (⟨#[63]⟩ : ByteArray))).size) (bytesOf_length _) (Go.Proofs.YtjicpadeplminaaDoor.Back.size_one _ _) ?_); (refine (impl_DecodeColor.calls _ _ (bytesOf (t158 ++ (⟨#[63]⟩ : ByteArray))) t159 t160 t161 t162 t163 t164 _ ?side1 ?side2 A93.out).mono ?_); (case side1 => exact Go.Proofs.YtjicpadeplminaaDoor.Ext.C_bytes _ _ (t158 ++ (⟨#[63]⟩ : ByteArray)) (of_decide_eq_true (by first | (with_reducible assumption) | assumption))); (case side2 => exact Go.Proofs.YtjicpadeplminaaDoor.Back.bytes_room_at _ _ _ (Go.Proofs.YtjicpadeplminaaDoor.Back.size_one _ _)); rintro e w119 ⟨rfl, hb⟩; have n0_ := Aside0.mk (blk_below (g := gb139) (o := .cells #[.int .i64 a0_0, .int .i64 a0_1, .int .i64 a0_2, .int .i64 a0_3] 33 (0, 0)) (by (with_reducible repeat (first | refine blk_drewN ?_ _ | refine blk_drew ?_ | refine blk_alloc ?_ _ | refine Go.Proofs.YtjicpadeplminaaDoor.Back.blk_bytes ?_)); exact BK139.out) hb); have n1_ := Aside0.mk (blk_below (g := gb140) (o := .cells #[.int .i64 a3_0, .int .i64 a3_1, .int .i64 a3_2, .int .i64 a3_3, .int .i64 a3_4] 23 (0, 0)) (by (with_reducible repeat (first | refine blk_drewN ?_ _ | refine blk_drew ?_ | refine blk_alloc ?_ _ | refine Go.Proofs.YtjicpadeplminaaDoor.Back.blk_bytes ?_)); exact BK140.out) hb); have n2_ := Aside0.mk (below_step (by repeat (first | (with_reducible first | exact HB.out | apply below_alloc | apply Go.Proofs.YtjicpadeplminaaDoor.Ext.below_bytes | apply pw_below_drewN | apply below_drew1 | refine below_set ?_ GE139.out | refine below_set ?_ GE140.out) | exact HB.out)) hb); clear BK139; clear BK140; clear HB; have BK139 := n0_; have BK140 := n1_; have HB := n2_; clear n0_ n1_ n2_; (try clear hb); (try clear hb2); (try clear hk); (try clear hi)) | ((with_reducible refine gate_dst (N := 19) rfl ?_); (try (refine gate_guard (by rfl) ?_; dsimp only)); refine box_event ?hg (N := 19) ?hd (cs := #[.int .i64 0, .int .i64 0, .int .i64 0, .int .i64 0, .int .i64 0]) (t := 23) ?hr ?_; (case hd => rfl); (case hg => rfl); (case hr => first | (go_simp; done) | (go_simp; rfl)); intro gb165 hg w120 hbox hb; have n0_ := Aside0.mk (blk_below (g := gb139) (o := .cells #[.int .i64 a0_0, .int .i64 a0_1, .int .i64 a0_2, .int .i64 a0_3] 33 (0, 0)) (by (with_reducible repeat (first | refine blk_drewN ?_ _ | refine blk_drew ?_ | refine blk_alloc ?_ _ | refine Go.Proofs.YtjicpadeplminaaDoor.Back.blk_bytes ?_)); exact BK139.out) hb); have n1_ := Aside0.mk (blk_below (g := gb140) (o := .cells #[.int .i64 a3_0, .int .i64 a3_1, .int .i64 a3_2, .int .i64 a3_3, .int .i64 a3_4] 23 (0, 0)) (by (with_reducible repeat (first | refine blk_drewN ?_ _ | refine blk_drew ?_ | refine blk_alloc ?_ _ | refine Go.Proofs.YtjicpadeplminaaDoor.Back.blk_bytes ?_)); exact BK140.out) hb); have n2_ := Aside0.mk (below_step (by repeat (first | (with_reducible first | exact HB.out | apply below_alloc | apply Go.Proofs.YtjicpadeplminaaDoor.Ext.below_bytes | apply pw_below_drewN | apply below_drew1 | refine below_set ?_ GE139.out | refine below_set ?_ GE140.out) | exact HB.out)) hb); have n3_ := Aside0.mk (hbox); have n4_ := Aside0.mk ((by rw [hg]; exact (below_size (by repeat (first | (with_reducible first | exact HB.out | apply below_alloc | apply Go.Proofs.YtjicpadeplminaaDoor.Ext.below_bytes | apply pw_below_drewN | apply below_drew1 | refine below_set ?_ GE139.out | refine below_set ?_ GE140.out) | exact HB.out))) : w.heap.size ≤ gb165)); have n5_ := Aside0.mk ((by rw [hg]; exact (below_size (by repeat (first | (with_reducible first | exact HB.out | apply below_alloc | apply Go.Proofs.YtjicpadeplminaaDoor.Ext.below_bytes | apply pw_below_drewN | apply below_drew1 | refine below_set ?_ GE139.out | refine below_set ?_ GE140.out) | exact HB.out))) : w.heap.size ≤ gb165)); have n6_ := Aside0.mk ((by rw [hg]; exact Nat.ne_of_lt (blk_lt (g := gb139) (o := .cells #[.int .i64 a0_0, .int .i64 a0_1, .int .i64 a0_2, .int .i64 a0_3] 33 (0, 0)) (by (with_reducible repeat (first | refine blk_drewN ?_ _ | refine blk_drew ?_ | refine blk_alloc ?_ _ | refine Go.Proofs.YtjicpadeplminaaDoor.Back.blk_bytes ?_)); exact BK139.out)) : gb139 ≠ gb165)); have n7_ := Aside0.mk ((by rw [hg]; exact Nat.ne_of_gt (blk_lt (g := gb139) (o := .cells #[.int .i64 a0_0, .int .i64 a0_1, .int .i64 a0_2, .int .i64 a0_3] 33 (0, 0)) (by (with_reducible repeat (first | refine blk_drewN ?_ _ | refine blk_drew ?_ | refine blk_alloc ?_ _ | refine Go.Proofs.YtjicpadeplminaaDoor.Back.blk_bytes ?_)); exact BK139.out)) : gb165 ≠ gb139)); have n8_ := Aside0.mk ((by rw [hg]; exact Nat.ne_of_lt (blk_lt (g := gb140) (o := .cells #[.int .i64 a3_0, .int .i64 a3_1, .int .i64 a3_2, .int .i64 a3_3, .int .i64 a3_4] 23 (0, 0)) (by (with_reducible repeat (first | refine blk_drewN ?_ _ | refine blk_drew ?_ | refine blk_alloc ?_ _ | refine Go.Proofs.YtjicpadeplminaaDoor.Back.blk_bytes ?_)); exact BK140.out)) : gb140 ≠ gb165)); have n9_ := Aside0.mk ((by rw [hg]; exact Nat.ne_of_gt (blk_lt (g := gb140) (o := .cells #[.int .i64 a3_0, .int .i64 a3_1, .int .i64 a3_2, .int .i64 a3_3, .int .i64 a3_4] 23 (0, 0)) (by (with_reducible repeat (first | refine blk_drewN ?_ _ | refine blk_drew ?_ | refine blk_alloc ?_ _ | refine Go.Proofs.YtjicpadeplminaaDoor.Back.blk_bytes ?_)); exact BK140.out)) : gb165 ≠ gb140)); clear BK139; clear BK140; clear HB; have BK139 := n0_; have BK140 := n1_; have HB := n2_; have BK165 := n3_; have GW165 := n4_; have GE165 := n5_; have NB139_165 := n6_; have NB165_139 := n7_; have NB140_165 := n8_; have NB165_140 := n9_; clear n0_ n1_ n2_ n3_ n4_ n5_ n6_ n7_ n8_ n9_; clear hb hbox hg; have hnb121 := NB165_139.out; have hnc121 := NB139_165.out; have hnb122 := NB165_140.out; have hnc122 := NB140_165.out; have hcz123_0 : w120.cell? ⟨gb165, 0, none⟩ = some (.int .i64 0) := (blk_cell BK165.out 0).trans rfl; have hcz123_1 : w120.cell? ⟨gb165, 1, none⟩ = some (.int .i64 0) := (blk_cell BK165.out 1).trans rfl; have hcz123_2 : w120.cell? ⟨gb165, 2, none⟩ = some (.int .i64 0) := (blk_cell BK165.out 2).trans rfl; have hcz123_3 : w120.cell? ⟨gb165, 3, none⟩ = some (.int .i64 0) := (blk_cell BK165.out 3).trans rfl; have hcz123_4 : w120.cell? ⟨gb165, 4, none⟩ = some (.int .i64 0) := (blk_cell BK165.out 4).trans rfl; have hfz123_0 := blk_frozen BK165.out 0; have hfz123_1 := blk_frozen BK165.out 1; have hfz123_2 := blk_frozen BK165.out 2; have hfz123_3 := blk_frozen BK165.out 3; have hfz123_4 := blk_frozen BK165.out 4; have hcz124_0 : w120.cell? ⟨gb140, 0, none⟩ = some (.int .i64 a3_0) := (blk_cell BK140.out 0).trans rfl; have hcz124_1 : w120.cell? ⟨gb140, 1, none⟩ = some (.int .i64 a3_1) := (blk_cell BK140.out 1).trans rfl; have hcz124_2 : w120.cell? ⟨gb140, 2, none⟩ = some (.int .i64 a3_2) := (blk_cell BK140.out 2).trans rfl; have hcz124_3 : w120.cell? ⟨gb140, 3, none⟩ = some (.int .i64 a3_3) := (blk_cell BK140.out 3).trans rfl; have hcz124_4 : w120.cell? ⟨gb140, 4, none⟩ = some (.int .i64 a3_4) := (blk_cell BK140.out 4).trans rfl; have hfz124_0 := blk_frozen BK140.out 0; have hfz124_1 := blk_frozen BK140.out 1; have hfz124_2 := blk_frozen BK140.out 2; have hfz124_3 := blk_frozen BK140.out 3; have hfz124_4 := blk_frozen BK140.out 4))
                                      go_ret
                                      exact ⟨by first | rfl | (simp [errW_none, errW_some] <;> rfl) | (simp [*, errW_none, errW_some] <;> rfl), by repeat (first | (with_reducible first | exact HB.out | apply below_alloc | apply Go.Proofs.YtjicpadeplminaaDoor.Ext.below_bytes | apply pw_below_drewN | apply below_drew1 | refine below_set ?_ GE139.out | refine below_set ?_ GE140.out | refine below_set ?_ GE165.out) | exact HB.out)⟩
                                · rw [if_neg c92] at H
                                  exact absurd H (by simp)
                              · rw [if_neg c91] at H
                                exact absurd H (by simp)
                            · replace c89 := Bool.eq_false_iff.mpr c89
                              subst c89
                              have H1 : ((impl_WriteRepeat.f 2 97).bind fun t167 => (some (t167.toList == ([33, 50, 97] : List UInt8)))) = some r := by rw [if_neg (show ¬ (false = true) by decide)] at H; exact H
                              clear H
                              have H := H1
                              clear H1
                              replace H := Option.bind_eq_some_iff.mp H
                              obtain ⟨t167, A1250, H⟩ := H
                              replace H : (some (t167.toList == ([33, 50, 97] : List UInt8))) = some r := H
                              have A125 := Aside0.mk A1250
                              clear A1250
                              obtain rfl := Option.some.inj H
                              go_wp2_with (first | ((with_reducible refine gate_callee (f := 9) rfl ?_); refine goesL_ (some 142) rfl rfl Tryd.func9 (by kernel_rfl) rfl #[.int .i64 2, .int .u8 97] rfl (by (try simp only [List.map_toArray, List.map_cons, List.map_nil]); first | done | rfl | (simp only [List.length_drop, List.length_take]; rfl) | (simp [Act.eval, *]; done) | (simp [Act.eval, *]; unfold wrap64; omega)) ?_; (with_reducible refine (impl_WriteRepeat.calls 2 97 t167 _ ?side1 A125.out).mono ?_); (case side1 => exact HLD.out.below (by repeat (first | (with_reducible first | exact HB.out | apply below_alloc | apply Go.Proofs.YtjicpadeplminaaDoor.Ext.below_bytes | apply pw_below_drewN | apply below_drew1 | refine below_set ?_ GE139.out | refine below_set ?_ GE140.out) | exact HB.out))); rintro e w126 ⟨rfl, hb⟩; refine ⟨_, rfl, ?_⟩; have n0_ := Aside0.mk (blk_below (g := gb139) (o := .cells #[.int .i64 a0_0, .int .i64 a0_1, .int .i64 a0_2, .int .i64 a0_3] 33 (0, 0)) (by (with_reducible repeat (first | refine blk_drewN ?_ _ | refine blk_drew ?_ | refine blk_alloc ?_ _ | refine Go.Proofs.YtjicpadeplminaaDoor.Back.blk_bytes ?_)); exact BK139.out) hb); have n1_ := Aside0.mk (blk_below (g := gb140) (o := .cells #[.int .i64 a3_0, .int .i64 a3_1, .int .i64 a3_2, .int .i64 a3_3, .int .i64 a3_4] 23 (0, 0)) (by (with_reducible repeat (first | refine blk_drewN ?_ _ | refine blk_drew ?_ | refine blk_alloc ?_ _ | refine Go.Proofs.YtjicpadeplminaaDoor.Back.blk_bytes ?_)); exact BK140.out) hb); have n2_ := Aside0.mk (below_step (by repeat (first | (with_reducible first | exact HB.out | apply below_alloc | apply Go.Proofs.YtjicpadeplminaaDoor.Ext.below_bytes | apply pw_below_drewN | apply below_drew1 | refine below_set ?_ GE139.out | refine below_set ?_ GE140.out) | exact HB.out)) hb); clear BK139; clear BK140; clear HB; have BK139 := n0_; have BK140 := n1_; have HB := n2_; clear n0_ n1_ n2_; (try clear hb); (try clear hb2); (try clear hk); (try clear hi)))
                              go_ret
                              exact ⟨by first | rfl | (simp [errW_none, errW_some] <;> rfl) | (simp [*, errW_none, errW_some] <;> rfl), by repeat (first | (with_reducible first | exact HB.out | apply below_alloc | apply Go.Proofs.YtjicpadeplminaaDoor.Ext.below_bytes | apply pw_below_drewN | apply below_drew1 | refine below_set ?_ GE139.out | refine below_set ?_ GE140.out) | exact HB.out)⟩

end Go.Proofs.YtjicpadeplminaaDoor.PE
