-- Written by wip/pp.py, a program of this session, out of the translation. Not trusted: Lean checks it.
import Derived.Test.YtplmmblofhhikaaDoorPUx0
import Derived.Test.YtplmmblofhhikaaDoorLit
import Derived.Test.YtplmmblofhhikaaDoorPUx4
namespace Go.Proofs.YtplmmblofhhikaaDoor.PU
open Go.RowKit Go.Proofs.YtplmmblofhhikaaDoor.Or Go.Proofs.YtplmmblofhhikaaDoorW.PrintWords Go.Proofs.YtplmmblofhhikaaDoorW.PrintLast Go.Proofs.YtplmmblofhhikaaDoorW.PrintMore
attribute [local go_sem] max2_int min2_int max_two min_two max_three min_three max_four min_four   -- for this text's walks alone
attribute [local go_sem] Go.Proofs.YtplmmblofhhikaaDoor.Ext.wrap64_mod256 Go.Proofs.YtplmmblofhhikaaDoor.Ext.wrap64_mod32 Go.Proofs.YtplmmblofhhikaaDoor.Ext.i64_mod256 Go.Proofs.YtplmmblofhhikaaDoor.Ext.i64_mod32 Go.Proofs.YtplmmblofhhikaaDoor.Ext.i64_u8 Go.Proofs.YtplmmblofhhikaaDoor.Ext.w64_u8 Go.Proofs.YtplmmblofhhikaaDoor.Ext.i64_u32 Go.Proofs.YtplmmblofhhikaaDoor.Ext.w64_u32 
set_option linter.unusedVariables false
set_option linter.unusedSimpArgs false

/-! ### laws_FnNumberRead: function 4 -/
mutual
def laws_FnNumberRead.j0 : Nat → Int → Int → List (S28) → Bool → Option (Bool)
  | 0, _, _, _, _ => none
  | k + 1, x0, x1, x5, x36 => if x36 = true then ((laws_makeAwake.f k).bind fun t181 => (some t181)) else ((impl_MakeNumber.f k x0 x1).bind fun t182 => (if t182.size ≤ 9223372036854775807 then ((spec_ReadSequence.f (bytesOf t182)).bind fun bt183 => (if bt183.2.2.2.2.2.2.2 = true then (if bt183.1 = 1 then (laws_FnNumberRead.j1 k x0 x1 x5 (decide ((bt183.2.2.1.length : Int) > 1)) bt183.1 bt183.2.1 bt183.2.2.1 bt183.2.2.2.1 bt183.2.2.2.2.1 bt183.2.2.2.2.2.1 bt183.2.2.2.2.2.2.1) else (laws_FnNumberRead.j1 k x0 x1 x5 true bt183.1 bt183.2.1 bt183.2.2.1 bt183.2.2.2.1 bt183.2.2.2.2.1 bt183.2.2.2.2.2.1 bt183.2.2.2.2.2.2.1)) else (laws_FnNumberRead.j1 k x0 x1 x5 true bt183.1 bt183.2.1 bt183.2.2.1 bt183.2.2.2.1 bt183.2.2.2.2.1 bt183.2.2.2.2.2.1 bt183.2.2.2.2.2.2.1))) else (none)))
def laws_FnNumberRead.j1 : Nat → Int → Int → List (S28) → Bool → Int → Int → List (S36) → List Int → Int → List Int → Bool → Option (Bool)
  | 0, _, _, _, _, _, _, _, _, _, _, _ => none
  | k + 1, x0, x1, x5, x59, x198000, x198001, x198002, x198003, x198004, x198005, x198006 => if x59 = true then (some false) else (if 0 ≤ x0 then (if x0 < (x5.length : Int) then (if (x198002.length : Int) = 1 then (if 0 < (x198002.length : Int) then (laws_FnNumberRead.j2 k x0 x1 x5 ((rd_T28 x5 x0).f2) (!((rd_T36 x198002 0).f1)) x198000 x198001 x198002 x198003 x198004 x198005 x198006) else (none)) else (laws_FnNumberRead.j2 k x0 x1 x5 ((rd_T28 x5 x0).f2) false x198000 x198001 x198002 x198003 x198004 x198005 x198006)) else (none)) else (none))
def laws_FnNumberRead.j2 : Nat → Int → Int → List (S28) → Int → Bool → Int → Int → List (S36) → List Int → Int → List Int → Bool → Option (Bool)
  | 0, _, _, _, _, _, _, _, _, _, _, _, _ => none
  | k + 1, x0, x1, x5, x9, x76, x198000, x198001, x198002, x198003, x198004, x198005, x198006 => if x76 = true then (if 0 < (x198002.length : Int) then (laws_FnNumberRead.j3 k x0 x1 x5 ((rd_T36 x198002 0).f0) x198000 x198001 x198002 x198003 x198004 x198005 x198006) else (none)) else (laws_FnNumberRead.j3 k x0 x1 x5 x9 x198000 x198001 x198002 x198003 x198004 x198005 x198006)
def laws_FnNumberRead.j3 : Nat → Int → Int → List (S28) → Int → Int → Int → List (S36) → List Int → Int → List Int → Bool → Option (Bool)
  | 0, _, _, _, _, _, _, _, _, _, _, _ => none
  | k + 1, x0, x1, x5, x9, x198000, x198001, x198002, x198003, x198004, x198005, x198006 => (some (([27, 91] : List Int) : List Int)).bind fun y201 => (if x198001 = 0 then (laws_FnNumberRead.j4 k x0 x1 x5 x9 y201 x198000 x198001 x198002 x198003 x198004 x198005 x198006) else (if y201.length < 140737488355328 then (laws_FnNumberRead.j4 k x0 x1 x5 x9 (y201 ++ [x198001]) x198000 x198001 x198002 x198003 x198004 x198005 x198006) else (none)))
def laws_FnNumberRead.j4 : Nat → Int → Int → List (S28) → Int → List Int → Int → Int → List (S36) → List Int → Int → List Int → Bool → Option (Bool)
  | 0, _, _, _, _, _, _, _, _, _, _, _, _ => none
  | k + 1, x0, x1, x5, x9, x10, x198000, x198001, x198002, x198003, x198004, x198005, x198006 => (laws_makeAwake.f k).bind fun t207 => (if t207 = true then (if x9 = x1 then (if 0 ≤ x0 then (if x0 < (x5.length : Int) then (if (strOfNums x10).toList = ((rd_T28 x5 x0).f0).toList then ((some (([x198004] : List Int) : List Int)).bind fun y209 => (if (strOfNums x198003).size + (strOfNums y209).size ≤ 9223372036854775807 then (some (((strOfNums x198003) ++ (strOfNums y209)).toList == ((rd_T28 x5 x0).f1).toList)) else (none))) else (some false)) else (none)) else (none)) else (some false)) else (some false))
end
def laws_FnNumberRead.f (k : Nat) (a0 : Int) (a1 : Int) : Option (Bool) := (spec_MadeOnes.f).bind fun t177 => (if a0 < 0 then (laws_FnNumberRead.j0 k a0 a1 t177 true) else (if a0 ≥ (t177.length : Int) then (laws_FnNumberRead.j0 k a0 a1 t177 true) else (if a0 = 23 then (laws_FnNumberRead.j0 k a0 a1 t177 true) else (if 0 ≤ a0 then (if a0 < (t177.length : Int) then (if a1 < ((rd_T28 t177 a0).f2) then (laws_FnNumberRead.j0 k a0 a1 t177 true) else (laws_FnNumberRead.j0 k a0 a1 t177 (decide (a1 > 100000)))) else (none)) else (none)))))
theorem laws_FnNumberRead.mono_l : ∀ k, (∀ y0 y1 y2 y3, LeO (laws_FnNumberRead.j0 k y0 y1 y2 y3) (laws_FnNumberRead.j0 (k + 1) y0 y1 y2 y3)) ∧ (∀ y0 y1 y2 y3 y4 y5 y6 y7 y8 y9 y10, LeO (laws_FnNumberRead.j1 k y0 y1 y2 y3 y4 y5 y6 y7 y8 y9 y10) (laws_FnNumberRead.j1 (k + 1) y0 y1 y2 y3 y4 y5 y6 y7 y8 y9 y10)) ∧ (∀ y0 y1 y2 y3 y4 y5 y6 y7 y8 y9 y10 y11, LeO (laws_FnNumberRead.j2 k y0 y1 y2 y3 y4 y5 y6 y7 y8 y9 y10 y11) (laws_FnNumberRead.j2 (k + 1) y0 y1 y2 y3 y4 y5 y6 y7 y8 y9 y10 y11)) ∧ (∀ y0 y1 y2 y3 y4 y5 y6 y7 y8 y9 y10, LeO (laws_FnNumberRead.j3 k y0 y1 y2 y3 y4 y5 y6 y7 y8 y9 y10) (laws_FnNumberRead.j3 (k + 1) y0 y1 y2 y3 y4 y5 y6 y7 y8 y9 y10)) ∧ (∀ y0 y1 y2 y3 y4 y5 y6 y7 y8 y9 y10 y11, LeO (laws_FnNumberRead.j4 k y0 y1 y2 y3 y4 y5 y6 y7 y8 y9 y10 y11) (laws_FnNumberRead.j4 (k + 1) y0 y1 y2 y3 y4 y5 y6 y7 y8 y9 y10 y11))
  | 0 => ⟨fun _ _ _ _ r h => by simp [laws_FnNumberRead.j0] at h, fun _ _ _ _ _ _ _ _ _ _ _ r h => by simp [laws_FnNumberRead.j1] at h, fun _ _ _ _ _ _ _ _ _ _ _ _ r h => by simp [laws_FnNumberRead.j2] at h, fun _ _ _ _ _ _ _ _ _ _ _ r h => by simp [laws_FnNumberRead.j3] at h, fun _ _ _ _ _ _ _ _ _ _ _ _ r h => by simp [laws_FnNumberRead.j4] at h⟩
  | k + 1 => by
    obtain ⟨ih0, ih1, ih2, ih3, ih4⟩ := laws_FnNumberRead.mono_l k
    refine ⟨?_, ?_, ?_, ?_, ?_⟩
    · intro y0 y1 y2 y3
      unfold laws_FnNumberRead.j0
      repeat' first
      | (with_reducible exact ih0 _ _ _ _)
      | (with_reducible exact ih1 _ _ _ _ _ _ _ _ _ _ _)
      | (with_reducible exact ih2 _ _ _ _ _ _ _ _ _ _ _ _)
      | (with_reducible exact ih3 _ _ _ _ _ _ _ _ _ _ _)
      | (with_reducible exact ih4 _ _ _ _ _ _ _ _ _ _ _ _)
      | (with_reducible exact impl_MakeNumber.mono _ _ _)
      | (with_reducible exact laws_makeAwake.mono _)
      | (with_reducible exact LeO.refl _)
      | (with_reducible exact LeO.none _)
      | (with_reducible refine LeO.ite ?_ ?_)
      | (with_reducible refine LeO.bind ?_ (fun _ => ?_))
      | exact ih0 _ _ _ _
      | exact ih1 _ _ _ _ _ _ _ _ _ _ _
      | exact ih2 _ _ _ _ _ _ _ _ _ _ _ _
      | exact ih3 _ _ _ _ _ _ _ _ _ _ _
      | exact ih4 _ _ _ _ _ _ _ _ _ _ _ _
      | exact impl_MakeNumber.mono _ _ _
      | exact laws_makeAwake.mono _
      | exact LeO.none _
      | refine LeO.ite ?_ ?_
      | refine LeO.bind ?_ (fun _ => ?_)
    · intro y0 y1 y2 y3 y4 y5 y6 y7 y8 y9 y10
      unfold laws_FnNumberRead.j1
      repeat' first
      | (with_reducible exact ih0 _ _ _ _)
      | (with_reducible exact ih1 _ _ _ _ _ _ _ _ _ _ _)
      | (with_reducible exact ih2 _ _ _ _ _ _ _ _ _ _ _ _)
      | (with_reducible exact ih3 _ _ _ _ _ _ _ _ _ _ _)
      | (with_reducible exact ih4 _ _ _ _ _ _ _ _ _ _ _ _)
      | (with_reducible exact impl_MakeNumber.mono _ _ _)
      | (with_reducible exact laws_makeAwake.mono _)
      | (with_reducible exact LeO.refl _)
      | (with_reducible exact LeO.none _)
      | (with_reducible refine LeO.ite ?_ ?_)
      | (with_reducible refine LeO.bind ?_ (fun _ => ?_))
      | exact ih0 _ _ _ _
      | exact ih1 _ _ _ _ _ _ _ _ _ _ _
      | exact ih2 _ _ _ _ _ _ _ _ _ _ _ _
      | exact ih3 _ _ _ _ _ _ _ _ _ _ _
      | exact ih4 _ _ _ _ _ _ _ _ _ _ _ _
      | exact impl_MakeNumber.mono _ _ _
      | exact laws_makeAwake.mono _
      | exact LeO.none _
      | refine LeO.ite ?_ ?_
      | refine LeO.bind ?_ (fun _ => ?_)
    · intro y0 y1 y2 y3 y4 y5 y6 y7 y8 y9 y10 y11
      unfold laws_FnNumberRead.j2
      repeat' first
      | (with_reducible exact ih0 _ _ _ _)
      | (with_reducible exact ih1 _ _ _ _ _ _ _ _ _ _ _)
      | (with_reducible exact ih2 _ _ _ _ _ _ _ _ _ _ _ _)
      | (with_reducible exact ih3 _ _ _ _ _ _ _ _ _ _ _)
      | (with_reducible exact ih4 _ _ _ _ _ _ _ _ _ _ _ _)
      | (with_reducible exact impl_MakeNumber.mono _ _ _)
      | (with_reducible exact laws_makeAwake.mono _)
      | (with_reducible exact LeO.refl _)
      | (with_reducible exact LeO.none _)
      | (with_reducible refine LeO.ite ?_ ?_)
      | (with_reducible refine LeO.bind ?_ (fun _ => ?_))
      | exact ih0 _ _ _ _
      | exact ih1 _ _ _ _ _ _ _ _ _ _ _
      | exact ih2 _ _ _ _ _ _ _ _ _ _ _ _
      | exact ih3 _ _ _ _ _ _ _ _ _ _ _
      | exact ih4 _ _ _ _ _ _ _ _ _ _ _ _
      | exact impl_MakeNumber.mono _ _ _
      | exact laws_makeAwake.mono _
      | exact LeO.none _
      | refine LeO.ite ?_ ?_
      | refine LeO.bind ?_ (fun _ => ?_)
    · intro y0 y1 y2 y3 y4 y5 y6 y7 y8 y9 y10
      unfold laws_FnNumberRead.j3
      repeat' first
      | (with_reducible exact ih0 _ _ _ _)
      | (with_reducible exact ih1 _ _ _ _ _ _ _ _ _ _ _)
      | (with_reducible exact ih2 _ _ _ _ _ _ _ _ _ _ _ _)
      | (with_reducible exact ih3 _ _ _ _ _ _ _ _ _ _ _)
      | (with_reducible exact ih4 _ _ _ _ _ _ _ _ _ _ _ _)
      | (with_reducible exact impl_MakeNumber.mono _ _ _)
      | (with_reducible exact laws_makeAwake.mono _)
      | (with_reducible exact LeO.refl _)
      | (with_reducible exact LeO.none _)
      | (with_reducible refine LeO.ite ?_ ?_)
      | (with_reducible refine LeO.bind ?_ (fun _ => ?_))
      | exact ih0 _ _ _ _
      | exact ih1 _ _ _ _ _ _ _ _ _ _ _
      | exact ih2 _ _ _ _ _ _ _ _ _ _ _ _
      | exact ih3 _ _ _ _ _ _ _ _ _ _ _
      | exact ih4 _ _ _ _ _ _ _ _ _ _ _ _
      | exact impl_MakeNumber.mono _ _ _
      | exact laws_makeAwake.mono _
      | exact LeO.none _
      | refine LeO.ite ?_ ?_
      | refine LeO.bind ?_ (fun _ => ?_)
    · intro y0 y1 y2 y3 y4 y5 y6 y7 y8 y9 y10 y11
      unfold laws_FnNumberRead.j4
      repeat' first
      | (with_reducible exact ih0 _ _ _ _)
      | (with_reducible exact ih1 _ _ _ _ _ _ _ _ _ _ _)
      | (with_reducible exact ih2 _ _ _ _ _ _ _ _ _ _ _ _)
      | (with_reducible exact ih3 _ _ _ _ _ _ _ _ _ _ _)
      | (with_reducible exact ih4 _ _ _ _ _ _ _ _ _ _ _ _)
      | (with_reducible exact impl_MakeNumber.mono _ _ _)
      | (with_reducible exact laws_makeAwake.mono _)
      | (with_reducible exact LeO.refl _)
      | (with_reducible exact LeO.none _)
      | (with_reducible refine LeO.ite ?_ ?_)
      | (with_reducible refine LeO.bind ?_ (fun _ => ?_))
      | exact ih0 _ _ _ _
      | exact ih1 _ _ _ _ _ _ _ _ _ _ _
      | exact ih2 _ _ _ _ _ _ _ _ _ _ _ _
      | exact ih3 _ _ _ _ _ _ _ _ _ _ _
      | exact ih4 _ _ _ _ _ _ _ _ _ _ _ _
      | exact impl_MakeNumber.mono _ _ _
      | exact laws_makeAwake.mono _
      | exact LeO.none _
      | refine LeO.ite ?_ ?_
      | refine LeO.bind ?_ (fun _ => ?_)
theorem laws_FnNumberRead.mono : ∀ a0 a1 k, LeO (laws_FnNumberRead.f k a0 a1) (laws_FnNumberRead.f (k + 1) a0 a1) := by
  intro a0 a1 k
  obtain ⟨ih0, ih1, ih2, ih3, ih4⟩ := laws_FnNumberRead.mono_l k
  unfold laws_FnNumberRead.f
  repeat' first
      | (with_reducible exact ih0 _ _ _ _)
      | (with_reducible exact ih1 _ _ _ _ _ _ _ _ _ _ _)
      | (with_reducible exact ih2 _ _ _ _ _ _ _ _ _ _ _ _)
      | (with_reducible exact ih3 _ _ _ _ _ _ _ _ _ _ _)
      | (with_reducible exact ih4 _ _ _ _ _ _ _ _ _ _ _ _)
      | (with_reducible exact impl_MakeNumber.mono _ _ _)
      | (with_reducible exact laws_makeAwake.mono _)
      | (with_reducible exact LeO.refl _)
      | (with_reducible exact LeO.none _)
      | (with_reducible refine LeO.ite ?_ ?_)
      | (with_reducible refine LeO.bind ?_ (fun _ => ?_))
      | exact ih0 _ _ _ _
      | exact ih1 _ _ _ _ _ _ _ _ _ _ _
      | exact ih2 _ _ _ _ _ _ _ _ _ _ _ _
      | exact ih3 _ _ _ _ _ _ _ _ _ _ _
      | exact ih4 _ _ _ _ _ _ _ _ _ _ _ _
      | exact impl_MakeNumber.mono _ _ _
      | exact laws_makeAwake.mono _
      | exact LeO.none _
      | refine LeO.ite ?_ ?_
      | refine LeO.bind ?_ (fun _ => ?_)
def laws_FnNumberRead.T14 : Bool × List (List Nat × List Nat) := (true, [([], []), ([0, 0], [0]), ([1], [1]), ([1], [1]), ([2, 3, 1], [1, 2, 3]), ([1, 4], [1, 4]), ([5, 1], [5]), ([6], [6]), ([7, 6], [6, 7]), ([6], [6]), ([6], [6]), ([9, 10, 6], [6, 9, 10]), ([11, 6], [6, 11]), ([12, 6], [6, 12]), ([8, 13, 6], [6, 8, 13]), ([6, 14], [6, 14]), ([15, 6], [15]), ([16], [16]), ([17, 16], [16, 17]), ([18, 16], [16, 18]), ([16], [16]), ([20, 16], [16, 20]), ([21, 16], [16, 21]), ([22, 16], [16, 22]), ([19, 23, 16], [16, 19, 23]), ([16], [16]), ([16], [16]), ([25, 26, 16], [16, 25, 26]), ([27, 16], [16, 27]), ([28, 16], [16, 28]), ([24, 29, 16], [16, 24, 29]), ([16, 30], [16, 30]), ([31, 16, 0, 1, 2, 3, 4, 5, 6, 7, 8, 9, 10, 11, 12, 13, 14, 15, 16, 17, 18, 19, 20, 21, 22, 23, 24, 25, 26, 27, 28, 29, 30, 31], [31])])
def laws_FnNumberRead.B14 : List Nat := [0, 1, 3, 3, 15, 31, 63, 127, 255, 127, 127, 1663, 3711, 7807, 16383, 32767, 65535, 131071, 262143, 524287, 131071, 1179647, 3276799, 7471103, 16777215, 131071, 131071, 100794367, 235012095, 503447551, 1073741823, 2147483647, 4294967295]
theorem laws_FnNumberRead.tab14 : rtab .any (opsOf Tryd.f4 14) = laws_FnNumberRead.T14 := by kernel_rfl
theorem laws_FnNumberRead.bits14 : waitsOk laws_FnNumberRead.T14.2 laws_FnNumberRead.B14 = true := by kernel_rfl
set_option maxHeartbeats 8000000 in
set_option maxRecDepth 100000 in
theorem laws_FnNumberRead.calls (k : Nat) (a0 : Int) (a1 : Int) (r : Bool) (w : World) (hLD : Laid w) (h : laws_FnNumberRead.f k a0 a1 = some r) :
    Calls Tryd.prog 4 #[.int .i64 a0, .int .i64 a1] w fun e w' => e = .returned (.bool r) ∧ Below w.heap.size w w' := by
  have hu32 := Tryd.underlying32
  have HLD := Aside0.mk hLD
  clear hLD
  have kb_9_30 := fun (s : ByteArray) (W : World) => print_bytes (P := Tryd.prog) 9 30 5 Tryd.underlying9 Tryd.underlying30 Tryd.underlying5 s W
  have HB := Aside0.mk (Below.refl w.heap.size w)
  have H : ((spec_MadeOnes.f).bind fun t177 => (if a0 < 0 then (laws_FnNumberRead.j0 k a0 a1 t177 true) else (if a0 ≥ (t177.length : Int) then (laws_FnNumberRead.j0 k a0 a1 t177 true) else (if a0 = 23 then (laws_FnNumberRead.j0 k a0 a1 t177 true) else (if 0 ≤ a0 then (if a0 < (t177.length : Int) then (if a1 < ((rd_T28 t177 a0).f2) then (laws_FnNumberRead.j0 k a0 a1 t177 true) else (laws_FnNumberRead.j0 k a0 a1 t177 (decide (a1 > 100000)))) else (none)) else (none)))))) = some r := h
  clear h
  replace H := Option.bind_eq_some_iff.mp H
  obtain ⟨t177, A30, H⟩ := H
  replace H : (if a0 < 0 then (laws_FnNumberRead.j0 k a0 a1 t177 true) else (if a0 ≥ (t177.length : Int) then (laws_FnNumberRead.j0 k a0 a1 t177 true) else (if a0 = 23 then (laws_FnNumberRead.j0 k a0 a1 t177 true) else (if 0 ≤ a0 then (if a0 < (t177.length : Int) then (if a1 < ((rd_T28 t177 a0).f2) then (laws_FnNumberRead.j0 k a0 a1 t177 true) else (laws_FnNumberRead.j0 k a0 a1 t177 (decide (a1 > 100000)))) else (none)) else (none))))) = some r := H
  have A3 := Aside0.mk A30
  clear A30
  have HC4 := Aside0.mk H
  clear H
  go_enter Tryd.func4, Tryd.ntmps4
  go_upto_region 2 with (first | ((with_reducible refine gate_callee (f := 18) rfl ?_); refine goesL_ (some 11) rfl rfl Tryd.func18 (by kernel_rfl) rfl #[] rfl (by (try simp only [List.map_toArray, List.map_cons, List.map_nil]); first | done | rfl | (simp only [List.length_drop, List.length_take]; rfl) | (simp [Act.eval, *]; done) | (simp [Act.eval, *]; unfold wrap64; omega)) ?_; (with_reducible refine (spec_MadeOnes.calls  t177 _ A3.out).mono ?_); rintro e w5 ⟨v178, rfl, ho0, hb⟩; refine ⟨_, rfl, ?_⟩; have n0_ := Aside0.mk (Kd.R_lower ho0 (below_size (by repeat (first | (with_reducible first | exact HB.out | apply below_alloc | apply Go.Proofs.YtplmmblofhhikaaDoor.Ext.below_bytes | apply pw_below_drewN | apply below_drew1) | exact HB.out)))); have n1_ := Aside0.mk (below_step (by repeat (first | (with_reducible first | exact HB.out | apply below_alloc | apply Go.Proofs.YtplmmblofhhikaaDoor.Ext.below_bytes | apply pw_below_drewN | apply below_drew1) | exact HB.out)) hb); clear HB; have HO179 := n0_; have HB := n1_; clear n0_ n1_; (try clear hb); (try clear hb2); (try clear hk); (try clear hi); (try clear ho0)))
  (try simp only [Act.put, List.setIfInBounds_toArray, List.set_cons_zero, List.set_cons_succ])
  go_cut [36] (fun v36 wc => ∃ (kq : Nat) (x36_3 : Bool), v36 = .bool x36_3 ∧ Aside0 (laws_FnNumberRead.j0 kq a0 a1 t177 x36_3 = some r) ∧ Aside0 (kq ≤ k) ∧ Aside0 (Kd.R k28 28 wc w.heap.size (fun _ => True) v178 t177) ∧ Aside0 (Below w.heap.size w wc))
  case first =>
    have H := HC4.out
    clear HC4
    by_cases c6 : a0 < 0
    · rw [if_pos c6] at H
      have c6b0 : decide (a0 < 0) = true := decide_eq_true c6
      clear c6
      (first | rw [c6b0] | (simp only [i64_w, i32_w]; rw [c6b0]) | skip)
      have H' := Aside0.mk H
      clear H
      go_wp2
      go_meet
      case rel => exact ⟨_, (true), (by first | rfl | (simp; done) | (simp [*]; done)), H', ⟨by first | omega | exact Nat.le_refl _⟩, ⟨by (with_reducible repeat (first | apply Kd.R_alloc | apply Go.Proofs.YtplmmblofhhikaaDoor.Ext.R_bytes | apply Kd.R_drewN | apply Kd.R_drew)); exact HO179.out⟩, ⟨by repeat (first | (with_reducible first | exact HB.out | apply below_alloc | apply Go.Proofs.YtplmmblofhhikaaDoor.Ext.below_bytes | apply pw_below_drewN | apply below_drew1) | exact HB.out)⟩⟩
    · rw [if_neg c6] at H
      have c6b0 : decide (a0 < 0) = false := decide_eq_false c6
      clear c6
      (first | rw [c6b0] | (simp only [i64_w, i32_w]; rw [c6b0]) | skip)
      by_cases c7 : a0 ≥ (t177.length : Int)
      · rw [if_pos c7] at H
        have c7b0 : decide ((t177.length : Int) ≤ a0) = true := decide_eq_true c7
        clear c7
        have H' := Aside0.mk H
        clear H
        obtain ⟨Ao8, co8, eo8⟩ := Kd.R_slice HO179.out
        subst eo8
        go_wp2
        go_meet
        case rel => exact ⟨_, (true), (by first | rfl | (simp; done) | (simp [*]; done)), H', ⟨by first | omega | exact Nat.le_refl _⟩, ⟨by (with_reducible repeat (first | apply Kd.R_alloc | apply Go.Proofs.YtplmmblofhhikaaDoor.Ext.R_bytes | apply Kd.R_drewN | apply Kd.R_drew)); exact HO179.out⟩, ⟨by repeat (first | (with_reducible first | exact HB.out | apply below_alloc | apply Go.Proofs.YtplmmblofhhikaaDoor.Ext.below_bytes | apply pw_below_drewN | apply below_drew1) | exact HB.out)⟩⟩
      · rw [if_neg c7] at H
        have c7b0 : decide ((t177.length : Int) ≤ a0) = false := decide_eq_false c7
        clear c7
        by_cases c9 : a0 = 23
        · rw [if_pos c9] at H
          have c9b0 : (a0 == 23) = true := beq_iff_eq.mpr c9
          have c9b1 : (a0 != 23) = false := bne_eq_false_iff_eq.mpr c9
          clear c9
          have H' := Aside0.mk H
          clear H
          obtain ⟨Ao10, co10, eo10⟩ := Kd.R_slice HO179.out
          subst eo10
          go_wp2
          go_meet
          case rel => exact ⟨_, (true), (by first | rfl | (simp; done) | (simp [*]; done)), H', ⟨by first | omega | exact Nat.le_refl _⟩, ⟨by (with_reducible repeat (first | apply Kd.R_alloc | apply Go.Proofs.YtplmmblofhhikaaDoor.Ext.R_bytes | apply Kd.R_drewN | apply Kd.R_drew)); exact HO179.out⟩, ⟨by repeat (first | (with_reducible first | exact HB.out | apply below_alloc | apply Go.Proofs.YtplmmblofhhikaaDoor.Ext.below_bytes | apply pw_below_drewN | apply below_drew1) | exact HB.out)⟩⟩
        · rw [if_neg c9] at H
          have c9b0 : (a0 == 23) = false := beq_eq_false_iff_ne.mpr c9
          have c9b1 : (a0 != 23) = true := bne_iff_ne.mpr c9
          by_cases c11 : 0 ≤ a0
          · rw [if_pos c11] at H
            have c11b0 : decide (0 ≤ a0) = true := decide_eq_true c11
            clear c11
            by_cases c12 : a0 < (t177.length : Int)
            · rw [if_pos c12] at H
              have c12b0 : decide (a0 < (t177.length : Int)) = true := decide_eq_true c12
              clear c12
              by_cases c13 : a1 < ((rd_T28 t177 a0).f2)
              · rw [if_pos c13] at H
                have c13b0 : decide (a1 < ((rd_T28 t177 a0).f2)) = true := decide_eq_true c13
                clear c13
                have H' := Aside0.mk H
                clear H
                obtain ⟨Ao14, co14, eo14⟩ := Kd.R_slice HO179.out
                subst eo14
                have p180 : 0 ≤ (a0 : Int) := of_decide_eq_true (by first | (with_reducible assumption) | assumption)
                have q180 : a0 < (t177.length : Int) := of_decide_eq_true (by first | (with_reducible assumption) | assumption)
                obtain ⟨ad180, e180, hx180_0, hx180_1, hx180_2⟩ := at_T28 (Kd.R_reads' HO179.out).2.2 a0 p180 q180
                cases e180
                replace p180 := eq_true p180
                replace q180 := eq_true q180
                go_wp2
                go_meet
                case rel => exact ⟨_, (true), (by first | rfl | (simp; done) | (simp [*]; done)), H', ⟨by first | omega | exact Nat.le_refl _⟩, ⟨by (with_reducible repeat (first | apply Kd.R_alloc | apply Go.Proofs.YtplmmblofhhikaaDoor.Ext.R_bytes | apply Kd.R_drewN | apply Kd.R_drew)); exact HO179.out⟩, ⟨by repeat (first | (with_reducible first | exact HB.out | apply below_alloc | apply Go.Proofs.YtplmmblofhhikaaDoor.Ext.below_bytes | apply pw_below_drewN | apply below_drew1) | exact HB.out)⟩⟩
              · rw [if_neg c13] at H
                have c13b0 : decide (a1 < ((rd_T28 t177 a0).f2)) = false := decide_eq_false c13
                clear c13
                have H' := Aside0.mk H
                clear H
                obtain ⟨Ao15, co15, eo15⟩ := Kd.R_slice HO179.out
                subst eo15
                have p180 : 0 ≤ (a0 : Int) := of_decide_eq_true (by first | (with_reducible assumption) | assumption)
                have q180 : a0 < (t177.length : Int) := of_decide_eq_true (by first | (with_reducible assumption) | assumption)
                obtain ⟨ad180, e180, hx180_0, hx180_1, hx180_2⟩ := at_T28 (Kd.R_reads' HO179.out).2.2 a0 p180 q180
                cases e180
                replace p180 := eq_true p180
                replace q180 := eq_true q180
                go_wp2
                go_meet
                case rel => exact ⟨_, (decide (a1 > 100000)), (by first | rfl | (simp; done) | (simp [*]; done)), H', ⟨by first | omega | exact Nat.le_refl _⟩, ⟨by (with_reducible repeat (first | apply Kd.R_alloc | apply Go.Proofs.YtplmmblofhhikaaDoor.Ext.R_bytes | apply Kd.R_drewN | apply Kd.R_drew)); exact HO179.out⟩, ⟨by repeat (first | (with_reducible first | exact HB.out | apply below_alloc | apply Go.Proofs.YtplmmblofhhikaaDoor.Ext.below_bytes | apply pw_below_drewN | apply below_drew1) | exact HB.out)⟩⟩
            · rw [if_neg c12] at H
              exact absurd H (by simp)
          · rw [if_neg c11] at H
            exact absurd H (by simp)
  case rest =>
    clear HC4
    try clear c1
    try clear p1
    try clear q1
    try clear hx1
    try clear p2
    try clear c4
    try clear c6
    try clear c6b0
    try clear p6
    try clear c7
    try clear c7b0
    try clear c9
    try clear c9b0
    try clear c9b1
    try clear c11
    try clear c11b0
    try clear c12
    try clear c12b0
    try clear c13
    try clear c13b0
    try clear hx180_0
    try clear hx180_1
    try clear hx180_2
    try clear p180
    try clear q180
    obtain ⟨kq, x36_3, rfl, HA, HJ3, HO_5, HB⟩ := hcut
    cases kq with
    | zero => exact absurd HA.out (by simp [laws_FnNumberRead.j0])
    | succ kj3 =>
      have H := HA.out
      clear HA
      simp only [laws_FnNumberRead.j0] at H
      by_cases c16 : x36_3 = true
      · subst c16
        have H1 : ((laws_makeAwake.f kj3).bind fun t181 => (some t181)) = some r := by rw [if_pos rfl] at H; exact H
        clear H
        have H := H1
        clear H1
        replace H := Option.bind_eq_some_iff.mp H
        obtain ⟨t181, A170, H⟩ := H
        replace H : (some t181) = some r := H
        have A17 := Aside0.mk A170
        clear A170
        obtain rfl := Option.some.inj H
        go_wp2_with (first | ((with_reducible refine gate_callee (f := 15) rfl ?_); refine goesL_ (some 37) rfl rfl Tryd.func15 (by kernel_rfl) rfl #[] rfl (by (try simp only [List.map_toArray, List.map_cons, List.map_nil]); first | done | rfl | (simp only [List.length_drop, List.length_take]; rfl) | (simp [Act.eval, *]; done) | (simp [Act.eval, *]; unfold wrap64; omega)) ?_; (with_reducible refine (laws_makeAwake.calls kj3  t181 _ ?side1 A17.out).mono ?_); (case side1 => exact HLD.out.below (by repeat (first | (with_reducible first | exact HB.out | apply below_alloc | apply Go.Proofs.YtplmmblofhhikaaDoor.Ext.below_bytes | apply pw_below_drewN | apply below_drew1) | exact HB.out))); rintro e w18 ⟨rfl, hb⟩; refine ⟨_, rfl, ?_⟩; have n0_ := Aside0.mk (Kd.R_below (by (with_reducible repeat (first | apply Kd.R_alloc | apply Go.Proofs.YtplmmblofhhikaaDoor.Ext.R_bytes | apply Kd.R_drewN | apply Kd.R_drew)); exact HO_5.out) hb); have n1_ := Aside0.mk (below_step (by repeat (first | (with_reducible first | exact HB.out | apply below_alloc | apply Go.Proofs.YtplmmblofhhikaaDoor.Ext.below_bytes | apply pw_below_drewN | apply below_drew1) | exact HB.out)) hb); clear HO_5; clear HB; have HO_5 := n0_; have HB := n1_; clear n0_ n1_; (try clear hb); (try clear hb2); (try clear hk); (try clear hi)))
        go_ret
        exact ⟨by first | rfl | (simp [errW_none, errW_some] <;> rfl) | (simp [*, errW_none, errW_some] <;> rfl), by repeat (first | (with_reducible first | exact HB.out | apply below_alloc | apply Go.Proofs.YtplmmblofhhikaaDoor.Ext.below_bytes | apply pw_below_drewN | apply below_drew1) | exact HB.out)⟩
      · replace c16 := Bool.eq_false_iff.mpr c16
        subst c16
        have H1 : ((impl_MakeNumber.f kj3 a0 a1).bind fun t182 => (if t182.size ≤ 9223372036854775807 then ((spec_ReadSequence.f (bytesOf t182)).bind fun bt183 => (if bt183.2.2.2.2.2.2.2 = true then (if bt183.1 = 1 then (laws_FnNumberRead.j1 kj3 a0 a1 t177 (decide ((bt183.2.2.1.length : Int) > 1)) bt183.1 bt183.2.1 bt183.2.2.1 bt183.2.2.2.1 bt183.2.2.2.2.1 bt183.2.2.2.2.2.1 bt183.2.2.2.2.2.2.1) else (laws_FnNumberRead.j1 kj3 a0 a1 t177 true bt183.1 bt183.2.1 bt183.2.2.1 bt183.2.2.2.1 bt183.2.2.2.2.1 bt183.2.2.2.2.2.1 bt183.2.2.2.2.2.2.1)) else (laws_FnNumberRead.j1 kj3 a0 a1 t177 true bt183.1 bt183.2.1 bt183.2.2.1 bt183.2.2.2.1 bt183.2.2.2.2.1 bt183.2.2.2.2.2.1 bt183.2.2.2.2.2.2.1))) else (none))) = some r := by rw [if_neg (show ¬ (false = true) by decide)] at H; exact H
        clear H
        have H := H1
        clear H1
        replace H := Option.bind_eq_some_iff.mp H
        obtain ⟨t182, A190, H⟩ := H
        replace H : (if t182.size ≤ 9223372036854775807 then ((spec_ReadSequence.f (bytesOf t182)).bind fun bt183 => (if bt183.2.2.2.2.2.2.2 = true then (if bt183.1 = 1 then (laws_FnNumberRead.j1 kj3 a0 a1 t177 (decide ((bt183.2.2.1.length : Int) > 1)) bt183.1 bt183.2.1 bt183.2.2.1 bt183.2.2.2.1 bt183.2.2.2.2.1 bt183.2.2.2.2.2.1 bt183.2.2.2.2.2.2.1) else (laws_FnNumberRead.j1 kj3 a0 a1 t177 true bt183.1 bt183.2.1 bt183.2.2.1 bt183.2.2.2.1 bt183.2.2.2.2.1 bt183.2.2.2.2.2.1 bt183.2.2.2.2.2.2.1)) else (laws_FnNumberRead.j1 kj3 a0 a1 t177 true bt183.1 bt183.2.1 bt183.2.2.1 bt183.2.2.2.1 bt183.2.2.2.2.1 bt183.2.2.2.2.2.1 bt183.2.2.2.2.2.2.1))) else (none)) = some r := H
        have A19 := Aside0.mk A190
        clear A190
        by_cases c20 : t182.size ≤ 9223372036854775807
        · rw [if_pos c20] at H
          have c20b0 := eq_true c20
          have c20b1 : decide (t182.size ≤ 9223372036854775807) = true := decide_eq_true c20
          try have c20b2 : (9223372036854775807 < t182.size) = False := eq_false (Nat.not_lt.2 c20)
          clear c20
          replace H := Option.bind_eq_some_iff.mp H
          obtain ⟨⟨t183, t184, t185, t188, t191, t192, t195, t196⟩, A210, H⟩ := H
          replace H : (if t196 = true then (if t183 = 1 then (laws_FnNumberRead.j1 kj3 a0 a1 t177 (decide ((t185.length : Int) > 1)) t183 t184 t185 t188 t191 t192 t195) else (laws_FnNumberRead.j1 kj3 a0 a1 t177 true t183 t184 t185 t188 t191 t192 t195)) else (laws_FnNumberRead.j1 kj3 a0 a1 t177 true t183 t184 t185 t188 t191 t192 t195)) = some r := H
          have A21 := Aside0.mk A210
          clear A210
          have HC22 := Aside0.mk H
          clear H
          go_upto_region 6 with (first | ((with_reducible refine gate_callee (f := 16) rfl ?_); refine goesL_ (some 40) rfl rfl Tryd.func16 (by kernel_rfl) rfl #[.int .i64 a0, .int .i64 a1] rfl (by (try simp only [List.map_toArray, List.map_cons, List.map_nil]); first | done | rfl | (simp only [List.length_drop, List.length_take]; rfl) | (simp [Act.eval, *]; done) | (simp [Act.eval, *]; unfold wrap64; omega)) ?_; (with_reducible refine (impl_MakeNumber.calls kj3 a0 a1 t182 _ ?side1 A19.out).mono ?_); (case side1 => exact HLD.out.below (by repeat (first | (with_reducible first | exact HB.out | apply below_alloc | apply Go.Proofs.YtplmmblofhhikaaDoor.Ext.below_bytes | apply pw_below_drewN | apply below_drew1) | exact HB.out))); rintro e w23 ⟨rfl, hb⟩; refine ⟨_, rfl, ?_⟩; have n0_ := Aside0.mk (Kd.R_below (by (with_reducible repeat (first | apply Kd.R_alloc | apply Go.Proofs.YtplmmblofhhikaaDoor.Ext.R_bytes | apply Kd.R_drewN | apply Kd.R_drew)); exact HO_5.out) hb); have n1_ := Aside0.mk (below_step (by repeat (first | (with_reducible first | exact HB.out | apply below_alloc | apply Go.Proofs.YtplmmblofhhikaaDoor.Ext.below_bytes | apply pw_below_drewN | apply below_drew1) | exact HB.out)) hb); clear HO_5; clear HB; have HO_5 := n0_; have HB := n1_; clear n0_ n1_; (try clear hb); (try clear hb2); (try clear hk); (try clear hi)) | (go_at_call 19; (with_reducible refine Go.Proofs.YtplmmblofhhikaaDoor.Ext.calls_len (m := (bytesOf t182).length) (k := (t182).size) (bytesOf_length _) rfl ?_); (refine (spec_ReadSequence.calls _ _ (bytesOf t182) t183 t184 t185 t188 t191 t192 t195 t196 _ ?side1 ?side2 A21.out).mono ?_); (case side1 => exact Go.Proofs.YtplmmblofhhikaaDoor.Ext.C_bytes _ _ t182 (of_decide_eq_true (by first | (with_reducible assumption) | assumption))); (case side2 => exact Go.Proofs.YtplmmblofhhikaaDoor.Ext.bytes_room _ _ _); rintro e w24 ⟨v186, v189, v193, rfl, ho0, ho1, ho2, hb⟩; have n0_ := Aside0.mk (Kd.R_below (by (with_reducible repeat (first | apply Kd.R_alloc | apply Go.Proofs.YtplmmblofhhikaaDoor.Ext.R_bytes | apply Kd.R_drewN | apply Kd.R_drew)); exact HO_5.out) hb); have n1_ := Aside0.mk (Kd.R_lower ho0 (below_size (by repeat (first | (with_reducible first | exact HB.out | apply below_alloc | apply Go.Proofs.YtplmmblofhhikaaDoor.Ext.below_bytes | apply pw_below_drewN | apply below_drew1) | exact HB.out)))); have n2_ := Aside0.mk (Kd.R_lower ho1 (below_size (by repeat (first | (with_reducible first | exact HB.out | apply below_alloc | apply Go.Proofs.YtplmmblofhhikaaDoor.Ext.below_bytes | apply pw_below_drewN | apply below_drew1) | exact HB.out)))); have n3_ := Aside0.mk (Kd.R_lower ho2 (below_size (by repeat (first | (with_reducible first | exact HB.out | apply below_alloc | apply Go.Proofs.YtplmmblofhhikaaDoor.Ext.below_bytes | apply pw_below_drewN | apply below_drew1) | exact HB.out)))); have n4_ := Aside0.mk (below_step (by repeat (first | (with_reducible first | exact HB.out | apply below_alloc | apply Go.Proofs.YtplmmblofhhikaaDoor.Ext.below_bytes | apply pw_below_drewN | apply below_drew1) | exact HB.out)) hb); clear HO_5; clear HB; have HO_5 := n0_; have HO187 := n1_; have HO190 := n2_; have HO194 := n3_; have HB := n4_; clear n0_ n1_ n2_ n3_ n4_; (try clear hb); (try clear hb2); (try clear hk); (try clear hi); (try clear ho0); (try clear ho1); (try clear ho2)) | ((with_reducible refine gate_dst (N := 7) rfl ?_); (try (refine gate_guard (by rfl) ?_; dsimp only)); refine box_event ?hg (N := 7) ?hd (cs := #[.int .i64 0, .int .u8 0, .slice none 0 0, .slice none 0 0, .int .u8 0, .slice none 0 0, .bool false]) (t := 32) ?hr ?_; (case hd => rfl); (case hg => rfl); (case hr => first | (go_simp; done) | (go_simp; rfl)); intro gb197 hg w25 hbox hb; have n0_ := Aside0.mk (Kd.R_below (by (with_reducible repeat (first | apply Kd.R_alloc | apply Go.Proofs.YtplmmblofhhikaaDoor.Ext.R_bytes | apply Kd.R_drewN | apply Kd.R_drew)); exact HO_5.out) hb); have n1_ := Aside0.mk (Kd.R_below (by (with_reducible repeat (first | apply Kd.R_alloc | apply Go.Proofs.YtplmmblofhhikaaDoor.Ext.R_bytes | apply Kd.R_drewN | apply Kd.R_drew)); exact HO187.out) hb); have n2_ := Aside0.mk (Kd.R_below (by (with_reducible repeat (first | apply Kd.R_alloc | apply Go.Proofs.YtplmmblofhhikaaDoor.Ext.R_bytes | apply Kd.R_drewN | apply Kd.R_drew)); exact HO190.out) hb); have n3_ := Aside0.mk (Kd.R_below (by (with_reducible repeat (first | apply Kd.R_alloc | apply Go.Proofs.YtplmmblofhhikaaDoor.Ext.R_bytes | apply Kd.R_drewN | apply Kd.R_drew)); exact HO194.out) hb); have n4_ := Aside0.mk (below_step (by repeat (first | (with_reducible first | exact HB.out | apply below_alloc | apply Go.Proofs.YtplmmblofhhikaaDoor.Ext.below_bytes | apply pw_below_drewN | apply below_drew1) | exact HB.out)) hb); have n5_ := Aside0.mk (hbox); have n6_ := Aside0.mk ((by rw [hg]; exact (below_size (by repeat (first | (with_reducible first | exact HB.out | apply below_alloc | apply Go.Proofs.YtplmmblofhhikaaDoor.Ext.below_bytes | apply pw_below_drewN | apply below_drew1) | exact HB.out))) : w.heap.size ≤ gb197)); have n7_ := Aside0.mk ((by rw [hg]; exact (below_size (by repeat (first | (with_reducible first | exact HB.out | apply below_alloc | apply Go.Proofs.YtplmmblofhhikaaDoor.Ext.below_bytes | apply pw_below_drewN | apply below_drew1) | exact HB.out))) : w.heap.size ≤ gb197)); clear HO_5; clear HO187; clear HO190; clear HO194; clear HB; have HO_5 := n0_; have HO187 := n1_; have HO190 := n2_; have HO194 := n3_; have HB := n4_; have BK197 := n5_; have GW197 := n6_; have GE197 := n7_; clear n0_ n1_ n2_ n3_ n4_ n5_ n6_ n7_; clear hb hbox hg; have hcz26_0 : w25.cell? ⟨gb197, 0, none⟩ = some (.int .i64 0) := (blk_cell BK197.out 0).trans rfl; have hcz26_1 : w25.cell? ⟨gb197, 1, none⟩ = some (.int .u8 0) := (blk_cell BK197.out 1).trans rfl; have hcz26_2 : w25.cell? ⟨gb197, 2, none⟩ = some (.slice none 0 0) := (blk_cell BK197.out 2).trans rfl; have hcz26_3 : w25.cell? ⟨gb197, 3, none⟩ = some (.slice none 0 0) := (blk_cell BK197.out 3).trans rfl; have hcz26_4 : w25.cell? ⟨gb197, 4, none⟩ = some (.int .u8 0) := (blk_cell BK197.out 4).trans rfl; have hcz26_5 : w25.cell? ⟨gb197, 5, none⟩ = some (.slice none 0 0) := (blk_cell BK197.out 5).trans rfl; have hcz26_6 : w25.cell? ⟨gb197, 6, none⟩ = some (.bool false) := (blk_cell BK197.out 6).trans rfl; have hfz26_0 := blk_frozen BK197.out 0; have hfz26_1 := blk_frozen BK197.out 1; have hfz26_2 := blk_frozen BK197.out 2; have hfz26_3 := blk_frozen BK197.out 3; have hfz26_4 := blk_frozen BK197.out 4; have hfz26_5 := blk_frozen BK197.out 5; have hfz26_6 := blk_frozen BK197.out 6; obtain ⟨Ao27, co27, eo27⟩ := Kd.R_slice HO187.out; subst eo27; obtain ⟨Ao28, co28, eo28⟩ := Kd.R_slice HO190.out; subst eo28; obtain ⟨Ao29, co29, eo29⟩ := Kd.R_slice HO194.out; subst eo29))
          (try simp only [Act.put, List.setIfInBounds_toArray, List.set_cons_zero, List.set_cons_succ])
          go_cut [59] (fun v59 wc => ∃ (kq : Nat) (x59_21 : Bool), v59 = .bool x59_21 ∧ Aside0 (laws_FnNumberRead.j1 kq a0 a1 t177 x59_21 t183 t184 t185 t188 t191 t192 t195 = some r) ∧ Aside0 (kq ≤ kj3) ∧ Aside0 (Kd.R k28 28 wc w.heap.size (fun _ => True) v178 t177) ∧ Aside0 (Kd.R k36 36 wc w.heap.size (fun _ => True) (.slice Ao27 t185.length co27) t185) ∧ Aside0 (Kd.R (Kd.int .u8) 5 wc w.heap.size (fun k_ => some k_ ≠ ((.slice Ao29 t192.length co29) : Value).ownBlock) (.slice Ao28 t188.length co28) t188) ∧ Aside0 (Kd.R (Kd.int .u8) 5 wc w.heap.size (fun k_ => some k_ ≠ ((.slice Ao28 t188.length co28) : Value).ownBlock) (.slice Ao29 t192.length co29) t192) ∧ Aside0 (wc.heap[gb197]? = some (.cells #[.int .i64 t183, .int .u8 t184, (.slice Ao27 t185.length co27), (.slice Ao28 t188.length co28), .int .u8 t191, (.slice Ao29 t192.length co29), .bool t195] 32 (0, 0))) ∧ Aside0 (Below w.heap.size w wc))
          case first =>
            have H := HC22.out
            clear HC22
            by_cases c30 : t196 = true
            · subst c30
              have H1 : (if t183 = 1 then (laws_FnNumberRead.j1 kj3 a0 a1 t177 (decide ((t185.length : Int) > 1)) t183 t184 t185 t188 t191 t192 t195) else (laws_FnNumberRead.j1 kj3 a0 a1 t177 true t183 t184 t185 t188 t191 t192 t195)) = some r := by rw [if_pos rfl] at H; exact H
              clear H
              have H := H1
              clear H1
              by_cases c31 : t183 = 1
              · rw [if_pos c31] at H
                have c31b0 : (t183 == 1) = true := beq_iff_eq.mpr c31
                have c31b1 : (t183 != 1) = false := bne_eq_false_iff_eq.mpr c31
                clear c31
                (first | rw [c31b0] | (simp only [i64_w, i32_w]; rw [c31b0]) | skip)
                have H' := Aside0.mk H
                clear H
                have hcz32_0 : w25.cell? ⟨gb197, 0, none⟩ = some (.int .i64 0) := (blk_cell BK197.out 0).trans rfl
                have hcz32_1 : w25.cell? ⟨gb197, 1, none⟩ = some (.int .u8 0) := (blk_cell BK197.out 1).trans rfl
                have hcz32_2 : w25.cell? ⟨gb197, 2, none⟩ = some (.slice none 0 0) := (blk_cell BK197.out 2).trans rfl
                have hcz32_3 : w25.cell? ⟨gb197, 3, none⟩ = some (.slice none 0 0) := (blk_cell BK197.out 3).trans rfl
                have hcz32_4 : w25.cell? ⟨gb197, 4, none⟩ = some (.int .u8 0) := (blk_cell BK197.out 4).trans rfl
                have hcz32_5 : w25.cell? ⟨gb197, 5, none⟩ = some (.slice none 0 0) := (blk_cell BK197.out 5).trans rfl
                have hcz32_6 : w25.cell? ⟨gb197, 6, none⟩ = some (.bool false) := (blk_cell BK197.out 6).trans rfl
                have hfz32_0 := blk_frozen BK197.out 0
                have hfz32_1 := blk_frozen BK197.out 1
                have hfz32_2 := blk_frozen BK197.out 2
                have hfz32_3 := blk_frozen BK197.out 3
                have hfz32_4 := blk_frozen BK197.out 4
                have hfz32_5 := blk_frozen BK197.out 5
                have hfz32_6 := blk_frozen BK197.out 6
                go_wp2
                go_meet
                case rel => exact ⟨_, (decide ((t185.length : Int) > 1)), (by first | rfl | (simp; done) | (simp [*]; done)), H', ⟨by have := HJ3.out; first | omega | exact Nat.le_refl _⟩, ⟨by (with_reducible repeat (first | apply Kd.R_alloc | apply Go.Proofs.YtplmmblofhhikaaDoor.Ext.R_bytes | apply Kd.R_drewN | apply Kd.R_drew)); exact Kd.R_mono (Kd.R_far (p := ⟨gb197, 6, none⟩) (Kd.R_far (p := ⟨gb197, 5, none⟩) (Kd.R_far (p := ⟨gb197, 4, none⟩) (Kd.R_far (p := ⟨gb197, 3, none⟩) (Kd.R_far (p := ⟨gb197, 2, none⟩) (Kd.R_far (p := ⟨gb197, 1, none⟩) (Kd.R_far (p := ⟨gb197, 0, none⟩) (Kd.R_types HO_5.out BK197.out (by decide)) (fun _ hk => hk.2) (.int .i64 t183)) (fun _ hk => hk.2) (.int .u8 t184)) (fun _ hk => hk.2) (.slice Ao27 t185.length co27)) (fun _ hk => hk.2) (.slice Ao28 t188.length co28)) (fun _ hk => hk.2) (.int .u8 t191)) (fun _ hk => hk.2) (.slice Ao29 t192.length co29)) (fun _ hk => hk.2) (.bool t195)) (fun _ hk => trivial)⟩, ⟨by (with_reducible repeat (first | apply Kd.R_alloc | apply Go.Proofs.YtplmmblofhhikaaDoor.Ext.R_bytes | apply Kd.R_drewN | apply Kd.R_drew)); exact Kd.R_mono (Kd.R_far (p := ⟨gb197, 6, none⟩) (Kd.R_far (p := ⟨gb197, 5, none⟩) (Kd.R_far (p := ⟨gb197, 4, none⟩) (Kd.R_far (p := ⟨gb197, 3, none⟩) (Kd.R_far (p := ⟨gb197, 2, none⟩) (Kd.R_far (p := ⟨gb197, 1, none⟩) (Kd.R_far (p := ⟨gb197, 0, none⟩) (Kd.R_types HO187.out BK197.out (by decide)) (fun _ hk => hk.2) (.int .i64 t183)) (fun _ hk => hk.2) (.int .u8 t184)) (fun _ hk => hk.2) (.slice Ao27 t185.length co27)) (fun _ hk => hk.2) (.slice Ao28 t188.length co28)) (fun _ hk => hk.2) (.int .u8 t191)) (fun _ hk => hk.2) (.slice Ao29 t192.length co29)) (fun _ hk => hk.2) (.bool t195)) (fun _ hk => trivial)⟩, ⟨by (with_reducible repeat (first | apply Kd.R_alloc | apply Go.Proofs.YtplmmblofhhikaaDoor.Ext.R_bytes | apply Kd.R_drewN | apply Kd.R_drew)); exact Kd.R_mono (Kd.R_far (p := ⟨gb197, 6, none⟩) (Kd.R_far (p := ⟨gb197, 5, none⟩) (Kd.R_far (p := ⟨gb197, 4, none⟩) (Kd.R_far (p := ⟨gb197, 3, none⟩) (Kd.R_far (p := ⟨gb197, 2, none⟩) (Kd.R_far (p := ⟨gb197, 1, none⟩) (Kd.R_far (p := ⟨gb197, 0, none⟩) (Kd.R_types HO190.out BK197.out (by decide)) (fun _ hk => hk.2) (.int .i64 t183)) (fun _ hk => hk.2) (.int .u8 t184)) (fun _ hk => hk.2) (.slice Ao27 t185.length co27)) (fun _ hk => hk.2) (.slice Ao28 t188.length co28)) (fun _ hk => hk.2) (.int .u8 t191)) (fun _ hk => hk.2) (.slice Ao29 t192.length co29)) (fun _ hk => hk.2) (.bool t195)) (fun _ hk => hk.1)⟩, ⟨by (with_reducible repeat (first | apply Kd.R_alloc | apply Go.Proofs.YtplmmblofhhikaaDoor.Ext.R_bytes | apply Kd.R_drewN | apply Kd.R_drew)); exact Kd.R_mono (Kd.R_far (p := ⟨gb197, 6, none⟩) (Kd.R_far (p := ⟨gb197, 5, none⟩) (Kd.R_far (p := ⟨gb197, 4, none⟩) (Kd.R_far (p := ⟨gb197, 3, none⟩) (Kd.R_far (p := ⟨gb197, 2, none⟩) (Kd.R_far (p := ⟨gb197, 1, none⟩) (Kd.R_far (p := ⟨gb197, 0, none⟩) (Kd.R_types HO194.out BK197.out (by decide)) (fun _ hk => hk.2) (.int .i64 t183)) (fun _ hk => hk.2) (.int .u8 t184)) (fun _ hk => hk.2) (.slice Ao27 t185.length co27)) (fun _ hk => hk.2) (.slice Ao28 t188.length co28)) (fun _ hk => hk.2) (.int .u8 t191)) (fun _ hk => hk.2) (.slice Ao29 t192.length co29)) (fun _ hk => hk.2) (.bool t195)) (fun _ hk => hk.1)⟩, ⟨by (with_reducible repeat (first | refine blk_drewN ?_ _ | refine blk_drew ?_ | refine blk_alloc ?_ _)); refine blk_put (cs := #[.int .i64 t183, .int .u8 t184, .slice Ao27 t185.length co27, .slice Ao28 t188.length co28, .int .u8 t191, .slice Ao29 t192.length co29, .bool false]) ?_ 6 _ rfl; (with_reducible repeat (first | refine blk_drewN ?_ _ | refine blk_drew ?_ | refine blk_alloc ?_ _)); refine blk_put (cs := #[.int .i64 t183, .int .u8 t184, .slice Ao27 t185.length co27, .slice Ao28 t188.length co28, .int .u8 t191, .slice none 0 0, .bool false]) ?_ 5 _ rfl; (with_reducible repeat (first | refine blk_drewN ?_ _ | refine blk_drew ?_ | refine blk_alloc ?_ _)); refine blk_put (cs := #[.int .i64 t183, .int .u8 t184, .slice Ao27 t185.length co27, .slice Ao28 t188.length co28, .int .u8 0, .slice none 0 0, .bool false]) ?_ 4 _ rfl; (with_reducible repeat (first | refine blk_drewN ?_ _ | refine blk_drew ?_ | refine blk_alloc ?_ _)); refine blk_put (cs := #[.int .i64 t183, .int .u8 t184, .slice Ao27 t185.length co27, .slice none 0 0, .int .u8 0, .slice none 0 0, .bool false]) ?_ 3 _ rfl; (with_reducible repeat (first | refine blk_drewN ?_ _ | refine blk_drew ?_ | refine blk_alloc ?_ _)); refine blk_put (cs := #[.int .i64 t183, .int .u8 t184, .slice none 0 0, .slice none 0 0, .int .u8 0, .slice none 0 0, .bool false]) ?_ 2 _ rfl; (with_reducible repeat (first | refine blk_drewN ?_ _ | refine blk_drew ?_ | refine blk_alloc ?_ _)); refine blk_put (cs := #[.int .i64 t183, .int .u8 0, .slice none 0 0, .slice none 0 0, .int .u8 0, .slice none 0 0, .bool false]) ?_ 1 _ rfl; (with_reducible repeat (first | refine blk_drewN ?_ _ | refine blk_drew ?_ | refine blk_alloc ?_ _)); refine blk_put (cs := #[.int .i64 0, .int .u8 0, .slice none 0 0, .slice none 0 0, .int .u8 0, .slice none 0 0, .bool false]) ?_ 0 _ rfl; (with_reducible repeat (first | refine blk_drewN ?_ _ | refine blk_drew ?_ | refine blk_alloc ?_ _)); exact BK197.out⟩, ⟨by repeat (first | (with_reducible first | exact HB.out | apply below_alloc | apply Go.Proofs.YtplmmblofhhikaaDoor.Ext.below_bytes | apply pw_below_drewN | apply below_drew1 | refine below_set ?_ GE197.out) | exact HB.out)⟩⟩
              · rw [if_neg c31] at H
                have c31b0 : (t183 == 1) = false := beq_eq_false_iff_ne.mpr c31
                have c31b1 : (t183 != 1) = true := bne_iff_ne.mpr c31
                (first | rw [c31b0] | (simp only [i64_w, i32_w]; rw [c31b0]) | skip)
                have H' := Aside0.mk H
                clear H
                have hcz33_0 : w25.cell? ⟨gb197, 0, none⟩ = some (.int .i64 0) := (blk_cell BK197.out 0).trans rfl
                have hcz33_1 : w25.cell? ⟨gb197, 1, none⟩ = some (.int .u8 0) := (blk_cell BK197.out 1).trans rfl
                have hcz33_2 : w25.cell? ⟨gb197, 2, none⟩ = some (.slice none 0 0) := (blk_cell BK197.out 2).trans rfl
                have hcz33_3 : w25.cell? ⟨gb197, 3, none⟩ = some (.slice none 0 0) := (blk_cell BK197.out 3).trans rfl
                have hcz33_4 : w25.cell? ⟨gb197, 4, none⟩ = some (.int .u8 0) := (blk_cell BK197.out 4).trans rfl
                have hcz33_5 : w25.cell? ⟨gb197, 5, none⟩ = some (.slice none 0 0) := (blk_cell BK197.out 5).trans rfl
                have hcz33_6 : w25.cell? ⟨gb197, 6, none⟩ = some (.bool false) := (blk_cell BK197.out 6).trans rfl
                have hfz33_0 := blk_frozen BK197.out 0
                have hfz33_1 := blk_frozen BK197.out 1
                have hfz33_2 := blk_frozen BK197.out 2
                have hfz33_3 := blk_frozen BK197.out 3
                have hfz33_4 := blk_frozen BK197.out 4
                have hfz33_5 := blk_frozen BK197.out 5
                have hfz33_6 := blk_frozen BK197.out 6
                go_wp2
                go_meet
                case rel => exact ⟨_, (true), (by first | rfl | (simp; done) | (simp [*]; done)), H', ⟨by have := HJ3.out; first | omega | exact Nat.le_refl _⟩, ⟨by (with_reducible repeat (first | apply Kd.R_alloc | apply Go.Proofs.YtplmmblofhhikaaDoor.Ext.R_bytes | apply Kd.R_drewN | apply Kd.R_drew)); exact Kd.R_mono (Kd.R_far (p := ⟨gb197, 6, none⟩) (Kd.R_far (p := ⟨gb197, 5, none⟩) (Kd.R_far (p := ⟨gb197, 4, none⟩) (Kd.R_far (p := ⟨gb197, 3, none⟩) (Kd.R_far (p := ⟨gb197, 2, none⟩) (Kd.R_far (p := ⟨gb197, 1, none⟩) (Kd.R_far (p := ⟨gb197, 0, none⟩) (Kd.R_types HO_5.out BK197.out (by decide)) (fun _ hk => hk.2) (.int .i64 t183)) (fun _ hk => hk.2) (.int .u8 t184)) (fun _ hk => hk.2) (.slice Ao27 t185.length co27)) (fun _ hk => hk.2) (.slice Ao28 t188.length co28)) (fun _ hk => hk.2) (.int .u8 t191)) (fun _ hk => hk.2) (.slice Ao29 t192.length co29)) (fun _ hk => hk.2) (.bool t195)) (fun _ hk => trivial)⟩, ⟨by (with_reducible repeat (first | apply Kd.R_alloc | apply Go.Proofs.YtplmmblofhhikaaDoor.Ext.R_bytes | apply Kd.R_drewN | apply Kd.R_drew)); exact Kd.R_mono (Kd.R_far (p := ⟨gb197, 6, none⟩) (Kd.R_far (p := ⟨gb197, 5, none⟩) (Kd.R_far (p := ⟨gb197, 4, none⟩) (Kd.R_far (p := ⟨gb197, 3, none⟩) (Kd.R_far (p := ⟨gb197, 2, none⟩) (Kd.R_far (p := ⟨gb197, 1, none⟩) (Kd.R_far (p := ⟨gb197, 0, none⟩) (Kd.R_types HO187.out BK197.out (by decide)) (fun _ hk => hk.2) (.int .i64 t183)) (fun _ hk => hk.2) (.int .u8 t184)) (fun _ hk => hk.2) (.slice Ao27 t185.length co27)) (fun _ hk => hk.2) (.slice Ao28 t188.length co28)) (fun _ hk => hk.2) (.int .u8 t191)) (fun _ hk => hk.2) (.slice Ao29 t192.length co29)) (fun _ hk => hk.2) (.bool t195)) (fun _ hk => trivial)⟩, ⟨by (with_reducible repeat (first | apply Kd.R_alloc | apply Go.Proofs.YtplmmblofhhikaaDoor.Ext.R_bytes | apply Kd.R_drewN | apply Kd.R_drew)); exact Kd.R_mono (Kd.R_far (p := ⟨gb197, 6, none⟩) (Kd.R_far (p := ⟨gb197, 5, none⟩) (Kd.R_far (p := ⟨gb197, 4, none⟩) (Kd.R_far (p := ⟨gb197, 3, none⟩) (Kd.R_far (p := ⟨gb197, 2, none⟩) (Kd.R_far (p := ⟨gb197, 1, none⟩) (Kd.R_far (p := ⟨gb197, 0, none⟩) (Kd.R_types HO190.out BK197.out (by decide)) (fun _ hk => hk.2) (.int .i64 t183)) (fun _ hk => hk.2) (.int .u8 t184)) (fun _ hk => hk.2) (.slice Ao27 t185.length co27)) (fun _ hk => hk.2) (.slice Ao28 t188.length co28)) (fun _ hk => hk.2) (.int .u8 t191)) (fun _ hk => hk.2) (.slice Ao29 t192.length co29)) (fun _ hk => hk.2) (.bool t195)) (fun _ hk => hk.1)⟩, ⟨by (with_reducible repeat (first | apply Kd.R_alloc | apply Go.Proofs.YtplmmblofhhikaaDoor.Ext.R_bytes | apply Kd.R_drewN | apply Kd.R_drew)); exact Kd.R_mono (Kd.R_far (p := ⟨gb197, 6, none⟩) (Kd.R_far (p := ⟨gb197, 5, none⟩) (Kd.R_far (p := ⟨gb197, 4, none⟩) (Kd.R_far (p := ⟨gb197, 3, none⟩) (Kd.R_far (p := ⟨gb197, 2, none⟩) (Kd.R_far (p := ⟨gb197, 1, none⟩) (Kd.R_far (p := ⟨gb197, 0, none⟩) (Kd.R_types HO194.out BK197.out (by decide)) (fun _ hk => hk.2) (.int .i64 t183)) (fun _ hk => hk.2) (.int .u8 t184)) (fun _ hk => hk.2) (.slice Ao27 t185.length co27)) (fun _ hk => hk.2) (.slice Ao28 t188.length co28)) (fun _ hk => hk.2) (.int .u8 t191)) (fun _ hk => hk.2) (.slice Ao29 t192.length co29)) (fun _ hk => hk.2) (.bool t195)) (fun _ hk => hk.1)⟩, ⟨by (with_reducible repeat (first | refine blk_drewN ?_ _ | refine blk_drew ?_ | refine blk_alloc ?_ _)); refine blk_put (cs := #[.int .i64 t183, .int .u8 t184, .slice Ao27 t185.length co27, .slice Ao28 t188.length co28, .int .u8 t191, .slice Ao29 t192.length co29, .bool false]) ?_ 6 _ rfl; (with_reducible repeat (first | refine blk_drewN ?_ _ | refine blk_drew ?_ | refine blk_alloc ?_ _)); refine blk_put (cs := #[.int .i64 t183, .int .u8 t184, .slice Ao27 t185.length co27, .slice Ao28 t188.length co28, .int .u8 t191, .slice none 0 0, .bool false]) ?_ 5 _ rfl; (with_reducible repeat (first | refine blk_drewN ?_ _ | refine blk_drew ?_ | refine blk_alloc ?_ _)); refine blk_put (cs := #[.int .i64 t183, .int .u8 t184, .slice Ao27 t185.length co27, .slice Ao28 t188.length co28, .int .u8 0, .slice none 0 0, .bool false]) ?_ 4 _ rfl; (with_reducible repeat (first | refine blk_drewN ?_ _ | refine blk_drew ?_ | refine blk_alloc ?_ _)); refine blk_put (cs := #[.int .i64 t183, .int .u8 t184, .slice Ao27 t185.length co27, .slice none 0 0, .int .u8 0, .slice none 0 0, .bool false]) ?_ 3 _ rfl; (with_reducible repeat (first | refine blk_drewN ?_ _ | refine blk_drew ?_ | refine blk_alloc ?_ _)); refine blk_put (cs := #[.int .i64 t183, .int .u8 t184, .slice none 0 0, .slice none 0 0, .int .u8 0, .slice none 0 0, .bool false]) ?_ 2 _ rfl; (with_reducible repeat (first | refine blk_drewN ?_ _ | refine blk_drew ?_ | refine blk_alloc ?_ _)); refine blk_put (cs := #[.int .i64 t183, .int .u8 0, .slice none 0 0, .slice none 0 0, .int .u8 0, .slice none 0 0, .bool false]) ?_ 1 _ rfl; (with_reducible repeat (first | refine blk_drewN ?_ _ | refine blk_drew ?_ | refine blk_alloc ?_ _)); refine blk_put (cs := #[.int .i64 0, .int .u8 0, .slice none 0 0, .slice none 0 0, .int .u8 0, .slice none 0 0, .bool false]) ?_ 0 _ rfl; (with_reducible repeat (first | refine blk_drewN ?_ _ | refine blk_drew ?_ | refine blk_alloc ?_ _)); exact BK197.out⟩, ⟨by repeat (first | (with_reducible first | exact HB.out | apply below_alloc | apply Go.Proofs.YtplmmblofhhikaaDoor.Ext.below_bytes | apply pw_below_drewN | apply below_drew1 | refine below_set ?_ GE197.out) | exact HB.out)⟩⟩
            · replace c30 := Bool.eq_false_iff.mpr c30
              subst c30
              have H1 : (laws_FnNumberRead.j1 kj3 a0 a1 t177 true t183 t184 t185 t188 t191 t192 t195) = some r := by rw [if_neg (show ¬ (false = true) by decide)] at H; exact H
              clear H
              have H := H1
              clear H1
              have H' := Aside0.mk H
              clear H
              go_wp2
              go_meet
              case rel => exact ⟨_, (true), (by first | rfl | (simp; done) | (simp [*]; done)), H', ⟨by have := HJ3.out; first | omega | exact Nat.le_refl _⟩, ⟨by (with_reducible repeat (first | apply Kd.R_alloc | apply Go.Proofs.YtplmmblofhhikaaDoor.Ext.R_bytes | apply Kd.R_drewN | apply Kd.R_drew)); exact Kd.R_mono (Kd.R_far (p := ⟨gb197, 6, none⟩) (Kd.R_far (p := ⟨gb197, 5, none⟩) (Kd.R_far (p := ⟨gb197, 4, none⟩) (Kd.R_far (p := ⟨gb197, 3, none⟩) (Kd.R_far (p := ⟨gb197, 2, none⟩) (Kd.R_far (p := ⟨gb197, 1, none⟩) (Kd.R_far (p := ⟨gb197, 0, none⟩) (Kd.R_types HO_5.out BK197.out (by decide)) (fun _ hk => hk.2) (.int .i64 t183)) (fun _ hk => hk.2) (.int .u8 t184)) (fun _ hk => hk.2) (.slice Ao27 t185.length co27)) (fun _ hk => hk.2) (.slice Ao28 t188.length co28)) (fun _ hk => hk.2) (.int .u8 t191)) (fun _ hk => hk.2) (.slice Ao29 t192.length co29)) (fun _ hk => hk.2) (.bool t195)) (fun _ hk => trivial)⟩, ⟨by (with_reducible repeat (first | apply Kd.R_alloc | apply Go.Proofs.YtplmmblofhhikaaDoor.Ext.R_bytes | apply Kd.R_drewN | apply Kd.R_drew)); exact Kd.R_mono (Kd.R_far (p := ⟨gb197, 6, none⟩) (Kd.R_far (p := ⟨gb197, 5, none⟩) (Kd.R_far (p := ⟨gb197, 4, none⟩) (Kd.R_far (p := ⟨gb197, 3, none⟩) (Kd.R_far (p := ⟨gb197, 2, none⟩) (Kd.R_far (p := ⟨gb197, 1, none⟩) (Kd.R_far (p := ⟨gb197, 0, none⟩) (Kd.R_types HO187.out BK197.out (by decide)) (fun _ hk => hk.2) (.int .i64 t183)) (fun _ hk => hk.2) (.int .u8 t184)) (fun _ hk => hk.2) (.slice Ao27 t185.length co27)) (fun _ hk => hk.2) (.slice Ao28 t188.length co28)) (fun _ hk => hk.2) (.int .u8 t191)) (fun _ hk => hk.2) (.slice Ao29 t192.length co29)) (fun _ hk => hk.2) (.bool t195)) (fun _ hk => trivial)⟩, ⟨by (with_reducible repeat (first | apply Kd.R_alloc | apply Go.Proofs.YtplmmblofhhikaaDoor.Ext.R_bytes | apply Kd.R_drewN | apply Kd.R_drew)); exact Kd.R_mono (Kd.R_far (p := ⟨gb197, 6, none⟩) (Kd.R_far (p := ⟨gb197, 5, none⟩) (Kd.R_far (p := ⟨gb197, 4, none⟩) (Kd.R_far (p := ⟨gb197, 3, none⟩) (Kd.R_far (p := ⟨gb197, 2, none⟩) (Kd.R_far (p := ⟨gb197, 1, none⟩) (Kd.R_far (p := ⟨gb197, 0, none⟩) (Kd.R_types HO190.out BK197.out (by decide)) (fun _ hk => hk.2) (.int .i64 t183)) (fun _ hk => hk.2) (.int .u8 t184)) (fun _ hk => hk.2) (.slice Ao27 t185.length co27)) (fun _ hk => hk.2) (.slice Ao28 t188.length co28)) (fun _ hk => hk.2) (.int .u8 t191)) (fun _ hk => hk.2) (.slice Ao29 t192.length co29)) (fun _ hk => hk.2) (.bool t195)) (fun _ hk => hk.1)⟩, ⟨by (with_reducible repeat (first | apply Kd.R_alloc | apply Go.Proofs.YtplmmblofhhikaaDoor.Ext.R_bytes | apply Kd.R_drewN | apply Kd.R_drew)); exact Kd.R_mono (Kd.R_far (p := ⟨gb197, 6, none⟩) (Kd.R_far (p := ⟨gb197, 5, none⟩) (Kd.R_far (p := ⟨gb197, 4, none⟩) (Kd.R_far (p := ⟨gb197, 3, none⟩) (Kd.R_far (p := ⟨gb197, 2, none⟩) (Kd.R_far (p := ⟨gb197, 1, none⟩) (Kd.R_far (p := ⟨gb197, 0, none⟩) (Kd.R_types HO194.out BK197.out (by decide)) (fun _ hk => hk.2) (.int .i64 t183)) (fun _ hk => hk.2) (.int .u8 t184)) (fun _ hk => hk.2) (.slice Ao27 t185.length co27)) (fun _ hk => hk.2) (.slice Ao28 t188.length co28)) (fun _ hk => hk.2) (.int .u8 t191)) (fun _ hk => hk.2) (.slice Ao29 t192.length co29)) (fun _ hk => hk.2) (.bool t195)) (fun _ hk => hk.1)⟩, ⟨by (with_reducible repeat (first | refine blk_drewN ?_ _ | refine blk_drew ?_ | refine blk_alloc ?_ _)); refine blk_put (cs := #[.int .i64 t183, .int .u8 t184, .slice Ao27 t185.length co27, .slice Ao28 t188.length co28, .int .u8 t191, .slice Ao29 t192.length co29, .bool false]) ?_ 6 _ rfl; (with_reducible repeat (first | refine blk_drewN ?_ _ | refine blk_drew ?_ | refine blk_alloc ?_ _)); refine blk_put (cs := #[.int .i64 t183, .int .u8 t184, .slice Ao27 t185.length co27, .slice Ao28 t188.length co28, .int .u8 t191, .slice none 0 0, .bool false]) ?_ 5 _ rfl; (with_reducible repeat (first | refine blk_drewN ?_ _ | refine blk_drew ?_ | refine blk_alloc ?_ _)); refine blk_put (cs := #[.int .i64 t183, .int .u8 t184, .slice Ao27 t185.length co27, .slice Ao28 t188.length co28, .int .u8 0, .slice none 0 0, .bool false]) ?_ 4 _ rfl; (with_reducible repeat (first | refine blk_drewN ?_ _ | refine blk_drew ?_ | refine blk_alloc ?_ _)); refine blk_put (cs := #[.int .i64 t183, .int .u8 t184, .slice Ao27 t185.length co27, .slice none 0 0, .int .u8 0, .slice none 0 0, .bool false]) ?_ 3 _ rfl; (with_reducible repeat (first | refine blk_drewN ?_ _ | refine blk_drew ?_ | refine blk_alloc ?_ _)); refine blk_put (cs := #[.int .i64 t183, .int .u8 t184, .slice none 0 0, .slice none 0 0, .int .u8 0, .slice none 0 0, .bool false]) ?_ 2 _ rfl; (with_reducible repeat (first | refine blk_drewN ?_ _ | refine blk_drew ?_ | refine blk_alloc ?_ _)); refine blk_put (cs := #[.int .i64 t183, .int .u8 0, .slice none 0 0, .slice none 0 0, .int .u8 0, .slice none 0 0, .bool false]) ?_ 1 _ rfl; (with_reducible repeat (first | refine blk_drewN ?_ _ | refine blk_drew ?_ | refine blk_alloc ?_ _)); refine blk_put (cs := #[.int .i64 0, .int .u8 0, .slice none 0 0, .slice none 0 0, .int .u8 0, .slice none 0 0, .bool false]) ?_ 0 _ rfl; (with_reducible repeat (first | refine blk_drewN ?_ _ | refine blk_drew ?_ | refine blk_alloc ?_ _)); exact BK197.out⟩, ⟨by repeat (first | (with_reducible first | exact HB.out | apply below_alloc | apply Go.Proofs.YtplmmblofhhikaaDoor.Ext.below_bytes | apply pw_below_drewN | apply below_drew1 | refine below_set ?_ GE197.out) | exact HB.out)⟩⟩
          case rest =>
            clear HC22
            try clear c1
            try clear p1
            try clear q1
            try clear hx1
            try clear c2
            try clear p2
            try clear c3
            try clear c4
            try clear c6
            try clear c6b0
            try clear p6
            try clear c7
            try clear c7b0
            try clear c9
            try clear c9b0
            try clear c9b1
            try clear c11
            try clear c11b0
            try clear c12
            try clear c12b0
            try clear c13
            try clear c13b0
            try clear c15
            try clear c16
            try clear c18
            try clear p18
            try clear q18
            try clear hx18
            try clear c20
            try clear c20b0
            try clear c20b1
            try clear c20b2
            try clear c30
            try clear c31
            try clear c31b0
            try clear c31b1
            try clear hcz26_0
            try clear hcz26_1
            try clear hcz26_2
            try clear hcz26_3
            try clear hcz26_4
            try clear hcz26_5
            try clear hcz26_6
            try clear hcz32_0
            try clear hcz32_1
            try clear hcz32_2
            try clear hcz32_3
            try clear hcz32_4
            try clear hcz32_5
            try clear hcz32_6
            try clear hcz33_0
            try clear hcz33_1
            try clear hcz33_2
            try clear hcz33_3
            try clear hcz33_4
            try clear hcz33_5
            try clear hcz33_6
            try clear hfz26_0
            try clear hfz26_1
            try clear hfz26_2
            try clear hfz26_3
            try clear hfz26_4
            try clear hfz26_5
            try clear hfz26_6
            try clear hfz32_0
            try clear hfz32_1
            try clear hfz32_2
            try clear hfz32_3
            try clear hfz32_4
            try clear hfz32_5
            try clear hfz32_6
            try clear hfz33_0
            try clear hfz33_1
            try clear hfz33_2
            try clear hfz33_3
            try clear hfz33_4
            try clear hfz33_5
            try clear hfz33_6
            try clear hx180_0
            try clear hx180_1
            try clear hx180_2
            try clear p1
            try clear p180
            try clear p2
            try clear p6
            try clear q1
            try clear q180
            obtain ⟨kq, x59_21, rfl, HA, HJ21, HO_5, HO_198002, HO_198003, HO_198005, BK197, HB⟩ := hcut
            cases kq with
            | zero => exact absurd HA.out (by simp [laws_FnNumberRead.j1])
            | succ kj21 =>
              have H := HA.out
              clear HA
              simp only [laws_FnNumberRead.j1] at H
              by_cases c34 : x59_21 = true
              · subst c34
                have H1 : (some false) = some r := by rw [if_pos rfl] at H; exact H
                clear H
                have H := H1
                clear H1
                obtain rfl := Option.some.inj H
                go_wp2
                go_ret
                exact ⟨by first | rfl | (simp [errW_none, errW_some] <;> rfl) | (simp [*, errW_none, errW_some] <;> rfl), by repeat (first | (with_reducible first | exact HB.out | apply below_alloc | apply Go.Proofs.YtplmmblofhhikaaDoor.Ext.below_bytes | apply pw_below_drewN | apply below_drew1 | refine below_set ?_ GE197.out) | exact HB.out)⟩
              · replace c34 := Bool.eq_false_iff.mpr c34
                subst c34
                have H1 : (if 0 ≤ a0 then (if a0 < (t177.length : Int) then (if (t185.length : Int) = 1 then (if 0 < (t185.length : Int) then (laws_FnNumberRead.j2 kj21 a0 a1 t177 ((rd_T28 t177 a0).f2) (!((rd_T36 t185 0).f1)) t183 t184 t185 t188 t191 t192 t195) else (none)) else (laws_FnNumberRead.j2 kj21 a0 a1 t177 ((rd_T28 t177 a0).f2) false t183 t184 t185 t188 t191 t192 t195)) else (none)) else (none)) = some r := by rw [if_neg (show ¬ (false = true) by decide)] at H; exact H
                clear H
                have H := H1
                clear H1
                by_cases c35 : 0 ≤ a0
                · rw [if_pos c35] at H
                  have c35b0 : decide (0 ≤ a0) = true := decide_eq_true c35
                  clear c35
                  by_cases c36 : a0 < (t177.length : Int)
                  · rw [if_pos c36] at H
                    have c36b0 : decide (a0 < (t177.length : Int)) = true := decide_eq_true c36
                    clear c36
                    have HC37 := Aside0.mk H
                    clear H
                    obtain ⟨Ao38, co38, eo38⟩ := Kd.R_slice HO_5.out
                    subst eo38
                    have p198 : 0 ≤ (a0 : Int) := of_decide_eq_true (by first | (with_reducible assumption) | assumption)
                    have q198 : a0 < (t177.length : Int) := of_decide_eq_true (by first | (with_reducible assumption) | assumption)
                    obtain ⟨ad198, e198, hx198_0, hx198_1, hx198_2⟩ := at_T28 (Kd.R_reads' HO_5.out).2.2 a0 p198 q198
                    cases e198
                    replace p198 := eq_true p198
                    replace q198 := eq_true q198
                    go_upto_region 9 with (fail)
                    go_cut [76] (fun v76 wc => ∃ (kq : Nat) (x76_36 : Bool), v76 = .bool x76_36 ∧ Aside0 (laws_FnNumberRead.j2 kq a0 a1 t177 ((rd_T28 t177 a0).f2) x76_36 t183 t184 t185 t188 t191 t192 t195 = some r) ∧ Aside0 (kq ≤ kj21) ∧ Aside0 (Kd.R k28 28 wc w.heap.size (fun _ => True) (.slice (some ad198) t177.length co38) t177) ∧ Aside0 (Kd.R k36 36 wc w.heap.size (fun _ => True) (.slice Ao27 t185.length co27) t185) ∧ Aside0 (Kd.R (Kd.int .u8) 5 wc w.heap.size (fun k_ => some k_ ≠ ((.slice Ao29 t192.length co29) : Value).ownBlock) (.slice Ao28 t188.length co28) t188) ∧ Aside0 (Kd.R (Kd.int .u8) 5 wc w.heap.size (fun k_ => some k_ ≠ ((.slice Ao28 t188.length co28) : Value).ownBlock) (.slice Ao29 t192.length co29) t192) ∧ Aside0 (wc.heap[gb197]? = some (.cells #[.int .i64 t183, .int .u8 t184, (.slice Ao27 t185.length co27), (.slice Ao28 t188.length co28), .int .u8 t191, (.slice Ao29 t192.length co29), .bool t195] 32 (0, 0))) ∧ Aside0 (Below w.heap.size w wc))
                    case first =>
                      have H := HC37.out
                      clear HC37
                      by_cases c39 : (t185.length : Int) = 1
                      · rw [if_pos c39] at H
                        have c39b0 : ((t185.length : Int) == 1) = true := beq_iff_eq.mpr c39
                        have c39b1 : ((t185.length : Int) != 1) = false := bne_eq_false_iff_eq.mpr c39
                        clear c39
                        (first | rw [c39b0] | (simp only [i64_w, i32_w]; rw [c39b0]) | skip)
                        by_cases c40 : 0 < (t185.length : Int)
                        · rw [if_pos c40] at H
                          have c40b0 : decide (0 < (t185.length : Int)) = true := decide_eq_true c40
                          have c40b1 : decide (0 < t185.length) = true := decide_eq_true (by omega)
                          clear c40
                          have H' := Aside0.mk H
                          clear H
                          have hcz41_0 : wc.cell? ⟨gb197, 0, none⟩ = some (.int .i64 t183) := (blk_cell BK197.out 0).trans rfl
                          have hcz41_1 : wc.cell? ⟨gb197, 1, none⟩ = some (.int .u8 t184) := (blk_cell BK197.out 1).trans rfl
                          have hcz41_2 : wc.cell? ⟨gb197, 2, none⟩ = some (.slice Ao27 t185.length co27) := (blk_cell BK197.out 2).trans rfl
                          have hcz41_3 : wc.cell? ⟨gb197, 3, none⟩ = some (.slice Ao28 t188.length co28) := (blk_cell BK197.out 3).trans rfl
                          have hcz41_4 : wc.cell? ⟨gb197, 4, none⟩ = some (.int .u8 t191) := (blk_cell BK197.out 4).trans rfl
                          have hcz41_5 : wc.cell? ⟨gb197, 5, none⟩ = some (.slice Ao29 t192.length co29) := (blk_cell BK197.out 5).trans rfl
                          have hcz41_6 : wc.cell? ⟨gb197, 6, none⟩ = some (.bool t195) := (blk_cell BK197.out 6).trans rfl
                          have hfz41_0 := blk_frozen BK197.out 0
                          have hfz41_1 := blk_frozen BK197.out 1
                          have hfz41_2 := blk_frozen BK197.out 2
                          have hfz41_3 := blk_frozen BK197.out 3
                          have hfz41_4 := blk_frozen BK197.out 4
                          have hfz41_5 := blk_frozen BK197.out 5
                          have hfz41_6 := blk_frozen BK197.out 6
                          have p199 : 0 ≤ (0 : Int) := (by omega)
                          have q199 : 0 < (t185.length : Int) := of_decide_eq_true (by first | (with_reducible assumption) | assumption)
                          obtain ⟨ad199, e199, hx199_0, hx199_1, hx199_2⟩ := at_T36 (Kd.R_reads' HO_198002.out).2.2 0 p199 q199
                          cases e199
                          have qi199 : (0 < t185.length) = True := eq_true (by omega)
                          (try rw [show ((0 : Int)).toNat = 0 from rfl] at hx199_0)
                          (try rw [show 0 * 3 = 0 from rfl] at hx199_0)
                          (try rw [Addr.add_zero'] at hx199_0)
                          (try rw [show ((0 : Int)).toNat = 0 from rfl] at hx199_1)
                          (try rw [show 0 * 3 = 0 from rfl] at hx199_1)
                          (try rw [Addr.add_zero'] at hx199_1)
                          (try rw [show ((0 : Int)).toNat = 0 from rfl] at hx199_2)
                          (try rw [show 0 * 3 = 0 from rfl] at hx199_2)
                          (try rw [Addr.add_zero'] at hx199_2)
                          replace p199 := eq_true p199
                          replace q199 := eq_true q199
                          go_wp2
                          go_meet
                          case rel => exact ⟨_, (!((rd_T36 t185 0).f1)), (by first | rfl | (simp; done) | (simp [*]; done)), H', ⟨by have := HJ3.out; have := HJ21.out; first | omega | exact Nat.le_refl _⟩, ⟨by (with_reducible repeat (first | apply Kd.R_alloc | apply Go.Proofs.YtplmmblofhhikaaDoor.Ext.R_bytes | apply Kd.R_drewN | apply Kd.R_drew)); exact HO_5.out⟩, ⟨by (with_reducible repeat (first | apply Kd.R_alloc | apply Go.Proofs.YtplmmblofhhikaaDoor.Ext.R_bytes | apply Kd.R_drewN | apply Kd.R_drew)); exact HO_198002.out⟩, ⟨by (with_reducible repeat (first | apply Kd.R_alloc | apply Go.Proofs.YtplmmblofhhikaaDoor.Ext.R_bytes | apply Kd.R_drewN | apply Kd.R_drew)); exact HO_198003.out⟩, ⟨by (with_reducible repeat (first | apply Kd.R_alloc | apply Go.Proofs.YtplmmblofhhikaaDoor.Ext.R_bytes | apply Kd.R_drewN | apply Kd.R_drew)); exact HO_198005.out⟩, ⟨by (with_reducible repeat (first | refine blk_drewN ?_ _ | refine blk_drew ?_ | refine blk_alloc ?_ _)); exact BK197.out⟩, ⟨by repeat (first | (with_reducible first | exact HB.out | apply below_alloc | apply Go.Proofs.YtplmmblofhhikaaDoor.Ext.below_bytes | apply pw_below_drewN | apply below_drew1 | refine below_set ?_ GE197.out) | exact HB.out)⟩⟩
                        · rw [if_neg c40] at H
                          exact absurd H (by simp)
                      · rw [if_neg c39] at H
                        have c39b0 : ((t185.length : Int) == 1) = false := beq_eq_false_iff_ne.mpr c39
                        have c39b1 : ((t185.length : Int) != 1) = true := bne_iff_ne.mpr c39
                        (first | rw [c39b0] | (simp only [i64_w, i32_w]; rw [c39b0]) | skip)
                        have H' := Aside0.mk H
                        clear H
                        have hcz42_0 : wc.cell? ⟨gb197, 0, none⟩ = some (.int .i64 t183) := (blk_cell BK197.out 0).trans rfl
                        have hcz42_1 : wc.cell? ⟨gb197, 1, none⟩ = some (.int .u8 t184) := (blk_cell BK197.out 1).trans rfl
                        have hcz42_2 : wc.cell? ⟨gb197, 2, none⟩ = some (.slice Ao27 t185.length co27) := (blk_cell BK197.out 2).trans rfl
                        have hcz42_3 : wc.cell? ⟨gb197, 3, none⟩ = some (.slice Ao28 t188.length co28) := (blk_cell BK197.out 3).trans rfl
                        have hcz42_4 : wc.cell? ⟨gb197, 4, none⟩ = some (.int .u8 t191) := (blk_cell BK197.out 4).trans rfl
                        have hcz42_5 : wc.cell? ⟨gb197, 5, none⟩ = some (.slice Ao29 t192.length co29) := (blk_cell BK197.out 5).trans rfl
                        have hcz42_6 : wc.cell? ⟨gb197, 6, none⟩ = some (.bool t195) := (blk_cell BK197.out 6).trans rfl
                        have hfz42_0 := blk_frozen BK197.out 0
                        have hfz42_1 := blk_frozen BK197.out 1
                        have hfz42_2 := blk_frozen BK197.out 2
                        have hfz42_3 := blk_frozen BK197.out 3
                        have hfz42_4 := blk_frozen BK197.out 4
                        have hfz42_5 := blk_frozen BK197.out 5
                        have hfz42_6 := blk_frozen BK197.out 6
                        go_wp2
                        go_meet
                        case rel => exact ⟨_, (false), (by first | rfl | (simp; done) | (simp [*]; done)), H', ⟨by have := HJ3.out; have := HJ21.out; first | omega | exact Nat.le_refl _⟩, ⟨by (with_reducible repeat (first | apply Kd.R_alloc | apply Go.Proofs.YtplmmblofhhikaaDoor.Ext.R_bytes | apply Kd.R_drewN | apply Kd.R_drew)); exact HO_5.out⟩, ⟨by (with_reducible repeat (first | apply Kd.R_alloc | apply Go.Proofs.YtplmmblofhhikaaDoor.Ext.R_bytes | apply Kd.R_drewN | apply Kd.R_drew)); exact HO_198002.out⟩, ⟨by (with_reducible repeat (first | apply Kd.R_alloc | apply Go.Proofs.YtplmmblofhhikaaDoor.Ext.R_bytes | apply Kd.R_drewN | apply Kd.R_drew)); exact HO_198003.out⟩, ⟨by (with_reducible repeat (first | apply Kd.R_alloc | apply Go.Proofs.YtplmmblofhhikaaDoor.Ext.R_bytes | apply Kd.R_drewN | apply Kd.R_drew)); exact HO_198005.out⟩, ⟨by (with_reducible repeat (first | refine blk_drewN ?_ _ | refine blk_drew ?_ | refine blk_alloc ?_ _)); exact BK197.out⟩, ⟨by repeat (first | (with_reducible first | exact HB.out | apply below_alloc | apply Go.Proofs.YtplmmblofhhikaaDoor.Ext.below_bytes | apply pw_below_drewN | apply below_drew1 | refine below_set ?_ GE197.out) | exact HB.out)⟩⟩
                    case rest =>
                      clear HC37
                      try clear c1
                      try clear p1
                      try clear q1
                      try clear hx1
                      try clear qi1
                      try clear c2
                      try clear p2
                      try clear c3
                      try clear c4
                      try clear c6
                      try clear c6b0
                      try clear p6
                      try clear c7
                      try clear c7b0
                      try clear c9
                      try clear c9b0
                      try clear c9b1
                      try clear c11
                      try clear c11b0
                      try clear c12
                      try clear c12b0
                      try clear c13
                      try clear c13b0
                      try clear c15
                      try clear c16
                      try clear c18
                      try clear p18
                      try clear q18
                      try clear hx18
                      try clear p19
                      try clear q19
                      try clear hx19
                      try clear qi19
                      try clear c20
                      try clear c20b0
                      try clear c20b1
                      try clear c20b2
                      try clear c30
                      try clear c31
                      try clear c31b0
                      try clear c31b1
                      try clear c34
                      try clear c35
                      try clear c35b0
                      try clear c36
                      try clear c36b0
                      try clear c39
                      try clear c39b0
                      try clear c39b1
                      try clear c40
                      try clear c40b0
                      try clear c40b1
                      try clear hcz26_0
                      try clear hcz26_1
                      try clear hcz26_2
                      try clear hcz26_3
                      try clear hcz26_4
                      try clear hcz26_5
                      try clear hcz26_6
                      try clear hcz32_0
                      try clear hcz32_1
                      try clear hcz32_2
                      try clear hcz32_3
                      try clear hcz32_4
                      try clear hcz32_5
                      try clear hcz32_6
                      try clear hcz33_0
                      try clear hcz33_1
                      try clear hcz33_2
                      try clear hcz33_3
                      try clear hcz33_4
                      try clear hcz33_5
                      try clear hcz33_6
                      try clear hcz41_0
                      try clear hcz41_1
                      try clear hcz41_2
                      try clear hcz41_3
                      try clear hcz41_4
                      try clear hcz41_5
                      try clear hcz41_6
                      try clear hcz42_0
                      try clear hcz42_1
                      try clear hcz42_2
                      try clear hcz42_3
                      try clear hcz42_4
                      try clear hcz42_5
                      try clear hcz42_6
                      try clear hfz26_0
                      try clear hfz26_1
                      try clear hfz26_2
                      try clear hfz26_3
                      try clear hfz26_4
                      try clear hfz26_5
                      try clear hfz26_6
                      try clear hfz32_0
                      try clear hfz32_1
                      try clear hfz32_2
                      try clear hfz32_3
                      try clear hfz32_4
                      try clear hfz32_5
                      try clear hfz32_6
                      try clear hfz33_0
                      try clear hfz33_1
                      try clear hfz33_2
                      try clear hfz33_3
                      try clear hfz33_4
                      try clear hfz33_5
                      try clear hfz33_6
                      try clear hfz41_0
                      try clear hfz41_1
                      try clear hfz41_2
                      try clear hfz41_3
                      try clear hfz41_4
                      try clear hfz41_5
                      try clear hfz41_6
                      try clear hfz42_0
                      try clear hfz42_1
                      try clear hfz42_2
                      try clear hfz42_3
                      try clear hfz42_4
                      try clear hfz42_5
                      try clear hfz42_6
                      try clear hx180_0
                      try clear hx180_1
                      try clear hx180_2
                      try clear hx198_0
                      try clear hx198_1
                      try clear hx198_2
                      try clear hx199_0
                      try clear hx199_1
                      try clear hx199_2
                      try clear p1
                      try clear p18
                      try clear p180
                      try clear p198
                      try clear p199
                      try clear p2
                      try clear p6
                      try clear q1
                      try clear q18
                      try clear q180
                      try clear q198
                      try clear q199
                      obtain ⟨kq, x76_36, rfl, HA, HJ36, HO_5, HO_198002, HO_198003, HO_198005, BK197, HB⟩ := hcut
                      cases kq with
                      | zero => exact absurd HA.out (by simp [laws_FnNumberRead.j2])
                      | succ kj36 =>
                        have H := HA.out
                        clear HA
                        simp only [laws_FnNumberRead.j2] at H
                        have HC43 := Aside0.mk H
                        clear H
                        go_upto_if 76 with (fail)
                        go_cut [9] (fun v9 wc => ∃ (kq : Nat) (x9_42 : Int), v9 = .int .i64 x9_42 ∧ Aside0 (laws_FnNumberRead.j3 kq a0 a1 t177 x9_42 t183 t184 t185 t188 t191 t192 t195 = some r) ∧ Aside0 (kq ≤ kj36) ∧ Aside0 (Kd.R k28 28 wc w.heap.size (fun _ => True) (.slice (some ad198) t177.length co38) t177) ∧ Aside0 (Kd.R k36 36 wc w.heap.size (fun _ => True) (.slice Ao27 t185.length co27) t185) ∧ Aside0 (Kd.R (Kd.int .u8) 5 wc w.heap.size (fun k_ => some k_ ≠ ((.slice Ao29 t192.length co29) : Value).ownBlock) (.slice Ao28 t188.length co28) t188) ∧ Aside0 (Kd.R (Kd.int .u8) 5 wc w.heap.size (fun k_ => some k_ ≠ ((.slice Ao28 t188.length co28) : Value).ownBlock) (.slice Ao29 t192.length co29) t192) ∧ Aside0 (wc.heap[gb197]? = some (.cells #[.int .i64 t183, .int .u8 t184, (.slice Ao27 t185.length co27), (.slice Ao28 t188.length co28), .int .u8 t191, (.slice Ao29 t192.length co29), .bool t195] 32 (0, 0))) ∧ Aside0 (Below w.heap.size w wc))
                        case first =>
                          have H := HC43.out
                          clear HC43
                          by_cases c44 : x76_36 = true
                          · subst c44
                            have H1 : (if 0 < (t185.length : Int) then (laws_FnNumberRead.j3 kj36 a0 a1 t177 ((rd_T36 t185 0).f0) t183 t184 t185 t188 t191 t192 t195) else (none)) = some r := by rw [if_pos rfl] at H; exact H
                            clear H
                            have H := H1
                            clear H1
                            by_cases c45 : 0 < (t185.length : Int)
                            · rw [if_pos c45] at H
                              have c45b0 : decide (0 < (t185.length : Int)) = true := decide_eq_true c45
                              have c45b1 : decide (0 < t185.length) = true := decide_eq_true (by omega)
                              clear c45
                              (first | rw [c45b0] | (simp only [i64_w, i32_w]; rw [c45b0]) | skip)
                              have H' := Aside0.mk H
                              clear H
                              have hcz46_0 : wc.cell? ⟨gb197, 0, none⟩ = some (.int .i64 t183) := (blk_cell BK197.out 0).trans rfl
                              have hcz46_1 : wc.cell? ⟨gb197, 1, none⟩ = some (.int .u8 t184) := (blk_cell BK197.out 1).trans rfl
                              have hcz46_2 : wc.cell? ⟨gb197, 2, none⟩ = some (.slice Ao27 t185.length co27) := (blk_cell BK197.out 2).trans rfl
                              have hcz46_3 : wc.cell? ⟨gb197, 3, none⟩ = some (.slice Ao28 t188.length co28) := (blk_cell BK197.out 3).trans rfl
                              have hcz46_4 : wc.cell? ⟨gb197, 4, none⟩ = some (.int .u8 t191) := (blk_cell BK197.out 4).trans rfl
                              have hcz46_5 : wc.cell? ⟨gb197, 5, none⟩ = some (.slice Ao29 t192.length co29) := (blk_cell BK197.out 5).trans rfl
                              have hcz46_6 : wc.cell? ⟨gb197, 6, none⟩ = some (.bool t195) := (blk_cell BK197.out 6).trans rfl
                              have hfz46_0 := blk_frozen BK197.out 0
                              have hfz46_1 := blk_frozen BK197.out 1
                              have hfz46_2 := blk_frozen BK197.out 2
                              have hfz46_3 := blk_frozen BK197.out 3
                              have hfz46_4 := blk_frozen BK197.out 4
                              have hfz46_5 := blk_frozen BK197.out 5
                              have hfz46_6 := blk_frozen BK197.out 6
                              have p200 : 0 ≤ (0 : Int) := (by omega)
                              have q200 : 0 < (t185.length : Int) := of_decide_eq_true (by first | (with_reducible assumption) | assumption)
                              obtain ⟨ad200, e200, hx200_0, hx200_1, hx200_2⟩ := at_T36 (Kd.R_reads' HO_198002.out).2.2 0 p200 q200
                              cases e200
                              have qi200 : (0 < t185.length) = True := eq_true (by omega)
                              (try rw [show ((0 : Int)).toNat = 0 from rfl] at hx200_0)
                              (try rw [show 0 * 3 = 0 from rfl] at hx200_0)
                              (try rw [Addr.add_zero'] at hx200_0)
                              (try rw [show ((0 : Int)).toNat = 0 from rfl] at hx200_1)
                              (try rw [show 0 * 3 = 0 from rfl] at hx200_1)
                              (try rw [Addr.add_zero'] at hx200_1)
                              (try rw [show ((0 : Int)).toNat = 0 from rfl] at hx200_2)
                              (try rw [show 0 * 3 = 0 from rfl] at hx200_2)
                              (try rw [Addr.add_zero'] at hx200_2)
                              replace p200 := eq_true p200
                              replace q200 := eq_true q200
                              go_wp2
                              go_meet
                              case rel => exact ⟨_, ((rd_T36 t185 0).f0), (by first | rfl | (simp; done) | (simp [*]; done)), H', ⟨by have := HJ3.out; have := HJ21.out; have := HJ36.out; first | omega | exact Nat.le_refl _⟩, ⟨by (with_reducible repeat (first | apply Kd.R_alloc | apply Go.Proofs.YtplmmblofhhikaaDoor.Ext.R_bytes | apply Kd.R_drewN | apply Kd.R_drew)); exact HO_5.out⟩, ⟨by (with_reducible repeat (first | apply Kd.R_alloc | apply Go.Proofs.YtplmmblofhhikaaDoor.Ext.R_bytes | apply Kd.R_drewN | apply Kd.R_drew)); exact HO_198002.out⟩, ⟨by (with_reducible repeat (first | apply Kd.R_alloc | apply Go.Proofs.YtplmmblofhhikaaDoor.Ext.R_bytes | apply Kd.R_drewN | apply Kd.R_drew)); exact HO_198003.out⟩, ⟨by (with_reducible repeat (first | apply Kd.R_alloc | apply Go.Proofs.YtplmmblofhhikaaDoor.Ext.R_bytes | apply Kd.R_drewN | apply Kd.R_drew)); exact HO_198005.out⟩, ⟨by (with_reducible repeat (first | refine blk_drewN ?_ _ | refine blk_drew ?_ | refine blk_alloc ?_ _)); exact BK197.out⟩, ⟨by repeat (first | (with_reducible first | exact HB.out | apply below_alloc | apply Go.Proofs.YtplmmblofhhikaaDoor.Ext.below_bytes | apply pw_below_drewN | apply below_drew1 | refine below_set ?_ GE197.out) | exact HB.out)⟩⟩
                            · rw [if_neg c45] at H
                              exact absurd H (by simp)
                          · replace c44 := Bool.eq_false_iff.mpr c44
                            subst c44
                            have H1 : (laws_FnNumberRead.j3 kj36 a0 a1 t177 ((rd_T28 t177 a0).f2) t183 t184 t185 t188 t191 t192 t195) = some r := by rw [if_neg (show ¬ (false = true) by decide)] at H; exact H
                            clear H
                            have H := H1
                            clear H1
                            have H' := Aside0.mk H
                            clear H
                            go_wp2
                            go_meet
                            case rel => exact ⟨_, (((rd_T28 t177 a0).f2)), (by first | rfl | (simp; done) | (simp [*]; done)), H', ⟨by have := HJ3.out; have := HJ21.out; have := HJ36.out; first | omega | exact Nat.le_refl _⟩, ⟨by (with_reducible repeat (first | apply Kd.R_alloc | apply Go.Proofs.YtplmmblofhhikaaDoor.Ext.R_bytes | apply Kd.R_drewN | apply Kd.R_drew)); exact HO_5.out⟩, ⟨by (with_reducible repeat (first | apply Kd.R_alloc | apply Go.Proofs.YtplmmblofhhikaaDoor.Ext.R_bytes | apply Kd.R_drewN | apply Kd.R_drew)); exact HO_198002.out⟩, ⟨by (with_reducible repeat (first | apply Kd.R_alloc | apply Go.Proofs.YtplmmblofhhikaaDoor.Ext.R_bytes | apply Kd.R_drewN | apply Kd.R_drew)); exact HO_198003.out⟩, ⟨by (with_reducible repeat (first | apply Kd.R_alloc | apply Go.Proofs.YtplmmblofhhikaaDoor.Ext.R_bytes | apply Kd.R_drewN | apply Kd.R_drew)); exact HO_198005.out⟩, ⟨by (with_reducible repeat (first | refine blk_drewN ?_ _ | refine blk_drew ?_ | refine blk_alloc ?_ _)); exact BK197.out⟩, ⟨by repeat (first | (with_reducible first | exact HB.out | apply below_alloc | apply Go.Proofs.YtplmmblofhhikaaDoor.Ext.below_bytes | apply pw_below_drewN | apply below_drew1 | refine below_set ?_ GE197.out) | exact HB.out)⟩⟩
                        case rest =>
                          clear HC43
                          try clear c1
                          try clear p1
                          try clear q1
                          try clear hx1
                          try clear qi1
                          try clear c2
                          try clear p2
                          try clear q2
                          try clear hx2
                          try clear qi2
                          try clear c3
                          try clear c4
                          try clear c6
                          try clear c6b0
                          try clear p6
                          try clear c7
                          try clear c7b0
                          try clear c9
                          try clear c9b0
                          try clear c9b1
                          try clear c11
                          try clear c11b0
                          try clear c12
                          try clear c12b0
                          try clear c13
                          try clear c13b0
                          try clear c15
                          try clear c16
                          try clear c18
                          try clear p18
                          try clear q18
                          try clear hx18
                          try clear p19
                          try clear q19
                          try clear hx19
                          try clear qi19
                          try clear c20
                          try clear c20b0
                          try clear c20b1
                          try clear c20b2
                          try clear p20
                          try clear q20
                          try clear hx20
                          try clear qi20
                          try clear c30
                          try clear c31
                          try clear c31b0
                          try clear c31b1
                          try clear c34
                          try clear c35
                          try clear c35b0
                          try clear c36
                          try clear c36b0
                          try clear c39
                          try clear c39b0
                          try clear c39b1
                          try clear c40
                          try clear c40b0
                          try clear c40b1
                          try clear c44
                          try clear c45
                          try clear c45b0
                          try clear c45b1
                          try clear hcz26_0
                          try clear hcz26_1
                          try clear hcz26_2
                          try clear hcz26_3
                          try clear hcz26_4
                          try clear hcz26_5
                          try clear hcz26_6
                          try clear hcz32_0
                          try clear hcz32_1
                          try clear hcz32_2
                          try clear hcz32_3
                          try clear hcz32_4
                          try clear hcz32_5
                          try clear hcz32_6
                          try clear hcz33_0
                          try clear hcz33_1
                          try clear hcz33_2
                          try clear hcz33_3
                          try clear hcz33_4
                          try clear hcz33_5
                          try clear hcz33_6
                          try clear hcz41_0
                          try clear hcz41_1
                          try clear hcz41_2
                          try clear hcz41_3
                          try clear hcz41_4
                          try clear hcz41_5
                          try clear hcz41_6
                          try clear hcz42_0
                          try clear hcz42_1
                          try clear hcz42_2
                          try clear hcz42_3
                          try clear hcz42_4
                          try clear hcz42_5
                          try clear hcz42_6
                          try clear hcz46_0
                          try clear hcz46_1
                          try clear hcz46_2
                          try clear hcz46_3
                          try clear hcz46_4
                          try clear hcz46_5
                          try clear hcz46_6
                          try clear hfz26_0
                          try clear hfz26_1
                          try clear hfz26_2
                          try clear hfz26_3
                          try clear hfz26_4
                          try clear hfz26_5
                          try clear hfz26_6
                          try clear hfz32_0
                          try clear hfz32_1
                          try clear hfz32_2
                          try clear hfz32_3
                          try clear hfz32_4
                          try clear hfz32_5
                          try clear hfz32_6
                          try clear hfz33_0
                          try clear hfz33_1
                          try clear hfz33_2
                          try clear hfz33_3
                          try clear hfz33_4
                          try clear hfz33_5
                          try clear hfz33_6
                          try clear hfz41_0
                          try clear hfz41_1
                          try clear hfz41_2
                          try clear hfz41_3
                          try clear hfz41_4
                          try clear hfz41_5
                          try clear hfz41_6
                          try clear hfz42_0
                          try clear hfz42_1
                          try clear hfz42_2
                          try clear hfz42_3
                          try clear hfz42_4
                          try clear hfz42_5
                          try clear hfz42_6
                          try clear hfz46_0
                          try clear hfz46_1
                          try clear hfz46_2
                          try clear hfz46_3
                          try clear hfz46_4
                          try clear hfz46_5
                          try clear hfz46_6
                          try clear hx180_0
                          try clear hx180_1
                          try clear hx180_2
                          try clear hx198_0
                          try clear hx198_1
                          try clear hx198_2
                          try clear hx199_0
                          try clear hx199_1
                          try clear hx199_2
                          try clear hx200_0
                          try clear hx200_1
                          try clear hx200_2
                          try clear p1
                          try clear p18
                          try clear p180
                          try clear p19
                          try clear p198
                          try clear p199
                          try clear p2
                          try clear p200
                          try clear p6
                          try clear q1
                          try clear q18
                          try clear q180
                          try clear q19
                          try clear q198
                          try clear q199
                          try clear q200
                          obtain ⟨kq, x9_42, rfl, HA, HJ42, HO_5, HO_198002, HO_198003, HO_198005, BK197, HB⟩ := hcut
                          cases kq with
                          | zero => exact absurd HA.out (by simp [laws_FnNumberRead.j3])
                          | succ kj42 =>
                            have H := HA.out
                            clear HA
                            simp only [laws_FnNumberRead.j3] at H
                            obtain ⟨y201, hy201⟩ : ∃ y_ : List Int, y_ = (([27, 91] : List Int)) := ⟨_, rfl⟩
                            replace H : (if t184 = 0 then (laws_FnNumberRead.j4 kj42 a0 a1 t177 x9_42 y201 t183 t184 t185 t188 t191 t192 t195) else (if y201.length < 140737488355328 then (laws_FnNumberRead.j4 kj42 a0 a1 t177 x9_42 (y201 ++ [t184]) t183 t184 t185 t188 t191 t192 t195) else (none))) = some r := by first | (rw [hy201]; with_reducible exact H) | (have H2_ := (Option.bind_some _ _).symm.trans H; rw [hy201]; with_reducible exact H2_) | (have H2_ := (Option.bind_some _ _).symm.trans H; with_reducible exact H2_) | with_reducible exact H | (rw [hy201]; exact H) | exact H
                            have Ny201 := Aside0.mk hy201
                            clear hy201
                            have HC47 := Aside0.mk H
                            clear H
                            go_upto_if 86 with (first | ((with_reducible refine gate_dst (N := 82) rfl ?_); (try (refine gate_guard (by rfl) ?_; dsimp only)); refine Go.Proofs.YtplmmblofhhikaaDoor.Lit.lit_mark (xs := ([27, 91] : List Int)) 30 ?hg ?hg2 Tryd.underlying30 Tryd.underlying5 (by decide) ?hr ?h2 ?_; (case hg => rfl); (case hg2 => rfl); (case hr => first | (go_simp; done) | (go_simp; rfl)); (case h2 => intro v_ W_; (try simp only [Act.put, List.setIfInBounds_toArray, List.set_cons_zero, List.set_cons_succ]); first | (go_simp; done) | (go_simp; rfl)); intro v202 w48 ho49 HF_v202 hb; rw [← Ny201.out] at ho49 HF_v202; replace HF_v202 := Aside0.mk HF_v202; have n0_ := Aside0.mk (Kd.R_below (by (with_reducible repeat (first | apply Kd.R_alloc | apply Go.Proofs.YtplmmblofhhikaaDoor.Ext.R_bytes | apply Kd.R_drewN | apply Kd.R_drew)); exact HO_5.out) hb); have n1_ := Aside0.mk (Kd.R_below (by (with_reducible repeat (first | apply Kd.R_alloc | apply Go.Proofs.YtplmmblofhhikaaDoor.Ext.R_bytes | apply Kd.R_drewN | apply Kd.R_drew)); exact HO_198002.out) hb); have n2_ := Aside0.mk (Kd.R_elder' (by (with_reducible repeat (first | apply Kd.R_alloc | apply Go.Proofs.YtplmmblofhhikaaDoor.Ext.R_bytes | apply Kd.R_drewN | apply Kd.R_drew)); exact HO_198003.out) (Go.Proofs.YtplmmblofhhikaaDoor.Lit.LR_base ho49) hb); have n3_ := Aside0.mk (Kd.R_elder' (by (with_reducible repeat (first | apply Kd.R_alloc | apply Go.Proofs.YtplmmblofhhikaaDoor.Ext.R_bytes | apply Kd.R_drewN | apply Kd.R_drew)); exact HO_198005.out) (Go.Proofs.YtplmmblofhhikaaDoor.Lit.LR_base ho49) hb); have n4_ := Aside0.mk (Go.Proofs.YtplmmblofhhikaaDoor.Lit.LR_lower (Go.Proofs.YtplmmblofhhikaaDoor.Lit.LR_new' (Go.Proofs.YtplmmblofhhikaaDoor.Lit.LR_new' ho49 (Kd.R_lt (by (with_reducible repeat (first | apply Kd.R_alloc | apply Go.Proofs.YtplmmblofhhikaaDoor.Ext.R_bytes | apply Kd.R_drewN | apply Kd.R_drew)); exact HO_198003.out))) (Kd.R_lt (by (with_reducible repeat (first | apply Kd.R_alloc | apply Go.Proofs.YtplmmblofhhikaaDoor.Ext.R_bytes | apply Kd.R_drewN | apply Kd.R_drew)); exact HO_198005.out))) (below_size (by repeat (first | (with_reducible first | exact HB.out | apply below_alloc | apply Go.Proofs.YtplmmblofhhikaaDoor.Ext.below_bytes | apply pw_below_drewN | apply below_drew1 | refine below_set ?_ GE197.out) | exact HB.out)))); have n5_ := Aside0.mk (blk_below (g := gb197) (o := .cells #[.int .i64 t183, .int .u8 t184, .slice Ao27 t185.length co27, .slice Ao28 t188.length co28, .int .u8 t191, .slice Ao29 t192.length co29, .bool t195] 32 (0, 0)) (by (with_reducible repeat (first | refine blk_drewN ?_ _ | refine blk_drew ?_ | refine blk_alloc ?_ _)); exact BK197.out) hb); have n6_ := Aside0.mk (below_step (by repeat (first | (with_reducible first | exact HB.out | apply below_alloc | apply Go.Proofs.YtplmmblofhhikaaDoor.Ext.below_bytes | apply pw_below_drewN | apply below_drew1 | refine below_set ?_ GE197.out) | exact HB.out)) hb); clear HO_5; clear HO_198002; clear HO_198003; clear HO_198005; clear BK197; clear HB; have HO_5 := n0_; have HO_198002 := n1_; have HO_198003 := n2_; have HO_198005 := n3_; have HO203 := n4_; have BK197 := n5_; have HB := n6_; clear n0_ n1_ n2_ n3_ n4_ n5_ n6_; clear hb ho49; have hcz50_0 : w48.cell? ⟨gb197, 0, none⟩ = some (.int .i64 t183) := (blk_cell BK197.out 0).trans rfl; have hcz50_1 : w48.cell? ⟨gb197, 1, none⟩ = some (.int .u8 t184) := (blk_cell BK197.out 1).trans rfl; have hcz50_2 : w48.cell? ⟨gb197, 2, none⟩ = some (.slice Ao27 t185.length co27) := (blk_cell BK197.out 2).trans rfl; have hcz50_3 : w48.cell? ⟨gb197, 3, none⟩ = some (.slice Ao28 t188.length co28) := (blk_cell BK197.out 3).trans rfl; have hcz50_4 : w48.cell? ⟨gb197, 4, none⟩ = some (.int .u8 t191) := (blk_cell BK197.out 4).trans rfl; have hcz50_5 : w48.cell? ⟨gb197, 5, none⟩ = some (.slice Ao29 t192.length co29) := (blk_cell BK197.out 5).trans rfl; have hcz50_6 : w48.cell? ⟨gb197, 6, none⟩ = some (.bool t195) := (blk_cell BK197.out 6).trans rfl; have hfz50_0 := blk_frozen BK197.out 0; have hfz50_1 := blk_frozen BK197.out 1; have hfz50_2 := blk_frozen BK197.out 2; have hfz50_3 := blk_frozen BK197.out 3; have hfz50_4 := blk_frozen BK197.out 4; have hfz50_5 := blk_frozen BK197.out 5; have hfz50_6 := blk_frozen BK197.out 6))
                            (try simp only [Act.put, List.setIfInBounds_toArray, List.set_cons_zero, List.set_cons_succ])
                            go_cut [10] (fun v10 wc => ∃ (kq : Nat) (x10_46 : List Int), Aside0 (laws_FnNumberRead.j4 kq a0 a1 t177 x9_42 x10_46 t183 t184 t185 t188 t191 t192 t195 = some r) ∧ Aside0 (kq ≤ kj42) ∧ Aside0 (Kd.R k28 28 wc w.heap.size (fun _ => True) (.slice (some ad198) t177.length co38) t177) ∧ Aside0 (Go.Proofs.YtplmmblofhhikaaDoor.Lit.LR wc w.heap.size (fun k_ => some k_ ≠ ((.slice Ao28 t188.length co28) : Value).ownBlock ∧ some k_ ≠ ((.slice Ao29 t192.length co29) : Value).ownBlock) v10 x10_46) ∧ Aside0 (Kd.R k36 36 wc w.heap.size (fun _ => True) (.slice Ao27 t185.length co27) t185) ∧ Aside0 (Kd.R (Kd.int .u8) 5 wc w.heap.size (fun k_ => some k_ ≠ (v10 : Value).ownBlock ∧ some k_ ≠ ((.slice Ao29 t192.length co29) : Value).ownBlock) (.slice Ao28 t188.length co28) t188) ∧ Aside0 (Kd.R (Kd.int .u8) 5 wc w.heap.size (fun k_ => some k_ ≠ (v10 : Value).ownBlock ∧ some k_ ≠ ((.slice Ao28 t188.length co28) : Value).ownBlock) (.slice Ao29 t192.length co29) t192) ∧ Aside0 (wc.heap[gb197]? = some (.cells #[.int .i64 t183, .int .u8 t184, (.slice Ao27 t185.length co27), (.slice Ao28 t188.length co28), .int .u8 t191, (.slice Ao29 t192.length co29), .bool t195] 32 (0, 0))) ∧ Aside0 (Below w.heap.size w wc))
                            case first =>
                              have H := HC47.out
                              clear HC47
                              by_cases c51 : t184 = 0
                              · rw [if_pos c51] at H
                                have c51b0 : (t184 == 0) = true := beq_iff_eq.mpr c51
                                have c51b1 : (t184 != 0) = false := bne_eq_false_iff_eq.mpr c51
                                clear c51
                                (first | rw [c51b0] | (simp only [i64_w, i32_w]; rw [c51b0]) | skip)
                                have H' := Aside0.mk H
                                clear H
                                go_wp2
                                go_meet
                                case rel => exact ⟨_, (y201), H', ⟨by have := HJ3.out; have := HJ21.out; have := HJ36.out; have := HJ42.out; first | omega | exact Nat.le_refl _⟩, ⟨by (with_reducible repeat (first | apply Kd.R_alloc | apply Go.Proofs.YtplmmblofhhikaaDoor.Ext.R_bytes | apply Kd.R_drewN | apply Kd.R_drew)); exact HO_5.out⟩, ⟨by (with_reducible repeat (first | apply Kd.R_alloc | apply Go.Proofs.YtplmmblofhhikaaDoor.Ext.R_bytes | apply Kd.R_drewN | apply Kd.R_drew)); exact Go.Proofs.YtplmmblofhhikaaDoor.Lit.LR_mono HO203.out (fun _ hk => ⟨hk.1.2, hk.2⟩)⟩, ⟨by (with_reducible repeat (first | apply Kd.R_alloc | apply Go.Proofs.YtplmmblofhhikaaDoor.Ext.R_bytes | apply Kd.R_drewN | apply Kd.R_drew)); exact HO_198002.out⟩, ⟨by (with_reducible repeat (first | apply Kd.R_alloc | apply Go.Proofs.YtplmmblofhhikaaDoor.Ext.R_bytes | apply Kd.R_drewN | apply Kd.R_drew)); exact Kd.R_mono HO_198003.out (fun _ hk => ⟨hk.2, hk.1⟩)⟩, ⟨by (with_reducible repeat (first | apply Kd.R_alloc | apply Go.Proofs.YtplmmblofhhikaaDoor.Ext.R_bytes | apply Kd.R_drewN | apply Kd.R_drew)); exact Kd.R_mono HO_198005.out (fun _ hk => ⟨hk.2, hk.1⟩)⟩, ⟨by (with_reducible repeat (first | refine blk_drewN ?_ _ | refine blk_drew ?_ | refine blk_alloc ?_ _)); exact BK197.out⟩, ⟨by repeat (first | (with_reducible first | exact HB.out | apply below_alloc | apply Go.Proofs.YtplmmblofhhikaaDoor.Ext.below_bytes | apply pw_below_drewN | apply below_drew1 | refine below_set ?_ GE197.out) | exact HB.out)⟩⟩
                              · rw [if_neg c51] at H
                                have c51b0 : (t184 == 0) = false := beq_eq_false_iff_ne.mpr c51
                                have c51b1 : (t184 != 0) = true := bne_iff_ne.mpr c51
                                (first | rw [c51b0] | (simp only [i64_w, i32_w]; rw [c51b0]) | skip)
                                by_cases c52 : y201.length < 140737488355328
                                · rw [if_pos c52] at H
                                  have LMc52 := Aside0.mk c52
                                  clear c52
                                  obtain ⟨y204, hy204⟩ : ∃ y_ : List Int, y_ = (y201 ++ [t184]) := ⟨_, rfl⟩
                                  replace H : (laws_FnNumberRead.j4 kj42 a0 a1 t177 x9_42 y204 t183 t184 t185 t188 t191 t192 t195) = some r := by first | (rw [hy204]; with_reducible exact H) | (have H2_ := (Option.bind_some _ _).symm.trans H; rw [hy204]; with_reducible exact H2_) | (have H2_ := (Option.bind_some _ _).symm.trans H; with_reducible exact H2_) | with_reducible exact H | (rw [hy204]; exact H) | exact H
                                  have Ny204 := Aside0.mk hy204
                                  clear hy204
                                  have H' := Aside0.mk H
                                  clear H
                                  have hcz53_0 : w48.cell? ⟨gb197, 0, none⟩ = some (.int .i64 t183) := (blk_cell BK197.out 0).trans rfl
                                  have hcz53_1 : w48.cell? ⟨gb197, 1, none⟩ = some (.int .u8 t184) := (blk_cell BK197.out 1).trans rfl
                                  have hcz53_2 : w48.cell? ⟨gb197, 2, none⟩ = some (.slice Ao27 t185.length co27) := (blk_cell BK197.out 2).trans rfl
                                  have hcz53_3 : w48.cell? ⟨gb197, 3, none⟩ = some (.slice Ao28 t188.length co28) := (blk_cell BK197.out 3).trans rfl
                                  have hcz53_4 : w48.cell? ⟨gb197, 4, none⟩ = some (.int .u8 t191) := (blk_cell BK197.out 4).trans rfl
                                  have hcz53_5 : w48.cell? ⟨gb197, 5, none⟩ = some (.slice Ao29 t192.length co29) := (blk_cell BK197.out 5).trans rfl
                                  have hcz53_6 : w48.cell? ⟨gb197, 6, none⟩ = some (.bool t195) := (blk_cell BK197.out 6).trans rfl
                                  have hfz53_0 := blk_frozen BK197.out 0
                                  have hfz53_1 := blk_frozen BK197.out 1
                                  have hfz53_2 := blk_frozen BK197.out 2
                                  have hfz53_3 := blk_frozen BK197.out 3
                                  have hfz53_4 := blk_frozen BK197.out 4
                                  have hfz53_5 := blk_frozen BK197.out 5
                                  have hfz53_6 := blk_frozen BK197.out 6
                                  go_wp2_with (first | ((with_reducible refine gate_builtin (b := .append) (xs := #[.tmp 87, .tmp 90]) rfl ?_); (try (refine gate_guard (by rfl) ?_; dsimp only)); at_builtin; refine Go.Proofs.YtplmmblofhhikaaDoor.Lit.lit_append w.heap.size rfl (.tmp 87) (.tmp 90) 30 (.int .u8 0) rfl Tryd.underlying30 info5 rfl v202 y201 t184 (fun k_ => some k_ ≠ (.slice Ao28 t188.length co28 : Value).ownBlock ∧ some k_ ≠ (.slice Ao29 t192.length co29 : Value).ownBlock) ?aZ rfl rfl ?aF HF_v202.out ?aO ?aL ?_; (case aF => exact (fun k_ hk => ⟨Kd.fresh' (Kd.R_lt (by (with_reducible repeat (first | apply Kd.R_alloc | apply Go.Proofs.YtplmmblofhhikaaDoor.Ext.R_bytes | apply Kd.R_drewN | apply Kd.R_drew)); exact HO_198003.out)) k_ hk, Kd.fresh' (Kd.R_lt (by (with_reducible repeat (first | apply Kd.R_alloc | apply Go.Proofs.YtplmmblofhhikaaDoor.Ext.R_bytes | apply Kd.R_drewN | apply Kd.R_drew)); exact HO_198005.out)) k_ hk⟩)); (case aO => exact HO203.out); (case aL => have := LMc52.out; omega); intro v205 w54 ho hb; rw [← Ny204.out] at ho; have n0_ := Aside0.mk (Kd.R_below HO_5.out hb); have n1_ := Aside0.mk (Kd.R_below HO_198002.out hb); have n2_ := Aside0.mk (Kd.R_mono (ok' := fun k_ => (some k_ ≠ (.slice Ao29 t192.length co29 : Value).ownBlock) ∧ some k_ ≠ (v205 : Value).ownBlock) (Kd.R_elder' HO_198003.out (Go.Proofs.YtplmmblofhhikaaDoor.Lit.LR_base ho) hb) (fun _ hk => ⟨hk.1.1, hk.2⟩)); have n3_ := Aside0.mk (Kd.R_mono (ok' := fun k_ => (some k_ ≠ (.slice Ao28 t188.length co28 : Value).ownBlock) ∧ some k_ ≠ (v205 : Value).ownBlock) (Kd.R_elder' HO_198005.out (Go.Proofs.YtplmmblofhhikaaDoor.Lit.LR_base ho) hb) (fun _ hk => ⟨hk.1.1, hk.2⟩)); have n4_ := Aside0.mk (blk_below (g := gb197) (o := .cells #[.int .i64 t183, .int .u8 t184, .slice Ao27 t185.length co27, .slice Ao28 t188.length co28, .int .u8 t191, .slice Ao29 t192.length co29, .bool t195] 32 (0, 0)) (by (with_reducible repeat (first | refine blk_drewN ?_ _ | refine blk_drew ?_ | refine blk_alloc ?_ _)); exact BK197.out) hb); have n5_ := Aside0.mk (below_step HB.out hb); have n6_ := Aside0.mk (Go.Proofs.YtplmmblofhhikaaDoor.Lit.LR_lower ho (below_size HB.out)); clear HO_5; clear HO_198002; clear HO_198003; clear HO_198005; clear BK197; clear HB; clear HO203; have HO_5 := n0_; have HO_198002 := n1_; have HO_198003 := n2_; have HO_198005 := n3_; have BK197 := n4_; have HB := n5_; have HO206 := n6_; clear n0_ n1_ n2_ n3_ n4_ n5_ n6_; clear ho hb))
                                  go_meet
                                  case rel => exact ⟨_, (y204), H', ⟨by have := HJ3.out; have := HJ21.out; have := HJ36.out; have := HJ42.out; first | omega | exact Nat.le_refl _⟩, ⟨by (with_reducible repeat (first | apply Kd.R_alloc | apply Go.Proofs.YtplmmblofhhikaaDoor.Ext.R_bytes | apply Kd.R_drewN | apply Kd.R_drew)); exact HO_5.out⟩, ⟨by (with_reducible repeat (first | apply Kd.R_alloc | apply Go.Proofs.YtplmmblofhhikaaDoor.Ext.R_bytes | apply Kd.R_drewN | apply Kd.R_drew)); exact HO206.out⟩, ⟨by (with_reducible repeat (first | apply Kd.R_alloc | apply Go.Proofs.YtplmmblofhhikaaDoor.Ext.R_bytes | apply Kd.R_drewN | apply Kd.R_drew)); exact HO_198002.out⟩, ⟨by (with_reducible repeat (first | apply Kd.R_alloc | apply Go.Proofs.YtplmmblofhhikaaDoor.Ext.R_bytes | apply Kd.R_drewN | apply Kd.R_drew)); exact Kd.R_mono HO_198003.out (fun _ hk => ⟨hk.2, hk.1⟩)⟩, ⟨by (with_reducible repeat (first | apply Kd.R_alloc | apply Go.Proofs.YtplmmblofhhikaaDoor.Ext.R_bytes | apply Kd.R_drewN | apply Kd.R_drew)); exact Kd.R_mono HO_198005.out (fun _ hk => ⟨hk.2, hk.1⟩)⟩, ⟨by (with_reducible repeat (first | refine blk_drewN ?_ _ | refine blk_drew ?_ | refine blk_alloc ?_ _)); exact BK197.out⟩, ⟨by repeat (first | (with_reducible first | exact HB.out | apply below_alloc | apply Go.Proofs.YtplmmblofhhikaaDoor.Ext.below_bytes | apply pw_below_drewN | apply below_drew1 | refine below_set ?_ GE197.out) | exact HB.out)⟩⟩
                                · rw [if_neg c52] at H
                                  exact absurd H (by simp)
                            case rest =>
                              clear HC47
                              try clear c1
                              try clear p1
                              try clear q1
                              try clear hx1
                              try clear qi1
                              try clear c2
                              try clear p2
                              try clear q2
                              try clear hx2
                              try clear qi2
                              try clear c3
                              try clear c4
                              try clear c5
                              try clear c6
                              try clear c6b0
                              try clear p6
                              try clear c7
                              try clear c7b0
                              try clear c9
                              try clear c9b0
                              try clear c9b1
                              try clear c11
                              try clear c11b0
                              try clear c12
                              try clear c12b0
                              try clear c13
                              try clear c13b0
                              try clear c15
                              try clear c16
                              try clear c18
                              try clear p18
                              try clear q18
                              try clear hx18
                              try clear p19
                              try clear q19
                              try clear hx19
                              try clear qi19
                              try clear c20
                              try clear c20b0
                              try clear c20b1
                              try clear c20b2
                              try clear p20
                              try clear q20
                              try clear hx20
                              try clear qi20
                              try clear c30
                              try clear c31
                              try clear c31b0
                              try clear c31b1
                              try clear c34
                              try clear c35
                              try clear c35b0
                              try clear c36
                              try clear c36b0
                              try clear c39
                              try clear c39b0
                              try clear c39b1
                              try clear c40
                              try clear c40b0
                              try clear c40b1
                              try clear c44
                              try clear c45
                              try clear c45b0
                              try clear c45b1
                              try clear c51
                              try clear c51b0
                              try clear c51b1
                              try clear c52
                              try clear hcz26_0
                              try clear hcz26_1
                              try clear hcz26_2
                              try clear hcz26_3
                              try clear hcz26_4
                              try clear hcz26_5
                              try clear hcz26_6
                              try clear hcz32_0
                              try clear hcz32_1
                              try clear hcz32_2
                              try clear hcz32_3
                              try clear hcz32_4
                              try clear hcz32_5
                              try clear hcz32_6
                              try clear hcz33_0
                              try clear hcz33_1
                              try clear hcz33_2
                              try clear hcz33_3
                              try clear hcz33_4
                              try clear hcz33_5
                              try clear hcz33_6
                              try clear hcz41_0
                              try clear hcz41_1
                              try clear hcz41_2
                              try clear hcz41_3
                              try clear hcz41_4
                              try clear hcz41_5
                              try clear hcz41_6
                              try clear hcz42_0
                              try clear hcz42_1
                              try clear hcz42_2
                              try clear hcz42_3
                              try clear hcz42_4
                              try clear hcz42_5
                              try clear hcz42_6
                              try clear hcz46_0
                              try clear hcz46_1
                              try clear hcz46_2
                              try clear hcz46_3
                              try clear hcz46_4
                              try clear hcz46_5
                              try clear hcz46_6
                              try clear hcz50_0
                              try clear hcz50_1
                              try clear hcz50_2
                              try clear hcz50_3
                              try clear hcz50_4
                              try clear hcz50_5
                              try clear hcz50_6
                              try clear hcz53_0
                              try clear hcz53_1
                              try clear hcz53_2
                              try clear hcz53_3
                              try clear hcz53_4
                              try clear hcz53_5
                              try clear hcz53_6
                              try clear hfz26_0
                              try clear hfz26_1
                              try clear hfz26_2
                              try clear hfz26_3
                              try clear hfz26_4
                              try clear hfz26_5
                              try clear hfz26_6
                              try clear hfz32_0
                              try clear hfz32_1
                              try clear hfz32_2
                              try clear hfz32_3
                              try clear hfz32_4
                              try clear hfz32_5
                              try clear hfz32_6
                              try clear hfz33_0
                              try clear hfz33_1
                              try clear hfz33_2
                              try clear hfz33_3
                              try clear hfz33_4
                              try clear hfz33_5
                              try clear hfz33_6
                              try clear hfz41_0
                              try clear hfz41_1
                              try clear hfz41_2
                              try clear hfz41_3
                              try clear hfz41_4
                              try clear hfz41_5
                              try clear hfz41_6
                              try clear hfz42_0
                              try clear hfz42_1
                              try clear hfz42_2
                              try clear hfz42_3
                              try clear hfz42_4
                              try clear hfz42_5
                              try clear hfz42_6
                              try clear hfz46_0
                              try clear hfz46_1
                              try clear hfz46_2
                              try clear hfz46_3
                              try clear hfz46_4
                              try clear hfz46_5
                              try clear hfz46_6
                              try clear hfz50_0
                              try clear hfz50_1
                              try clear hfz50_2
                              try clear hfz50_3
                              try clear hfz50_4
                              try clear hfz50_5
                              try clear hfz50_6
                              try clear hfz53_0
                              try clear hfz53_1
                              try clear hfz53_2
                              try clear hfz53_3
                              try clear hfz53_4
                              try clear hfz53_5
                              try clear hfz53_6
                              try clear hx180_0
                              try clear hx180_1
                              try clear hx180_2
                              try clear hx198_0
                              try clear hx198_1
                              try clear hx198_2
                              try clear hx199_0
                              try clear hx199_1
                              try clear hx199_2
                              try clear hx200_0
                              try clear hx200_1
                              try clear hx200_2
                              try clear p1
                              try clear p18
                              try clear p180
                              try clear p19
                              try clear p198
                              try clear p199
                              try clear p2
                              try clear p20
                              try clear p200
                              try clear p6
                              try clear q1
                              try clear q18
                              try clear q180
                              try clear q19
                              try clear q198
                              try clear q199
                              try clear q2
                              try clear q20
                              try clear q200
                              obtain ⟨kq, x10_46, HA, HJ46, HO_5, HO_10, HO_198002, HO_198003, HO_198005, BK197, HB⟩ := hcut
                              cases kq with
                              | zero => exact absurd HA.out (by simp [laws_FnNumberRead.j4])
                              | succ kj46 =>
                                have H := HA.out
                                clear HA
                                simp only [laws_FnNumberRead.j4] at H
                                replace H := Option.bind_eq_some_iff.mp H
                                obtain ⟨t207, A550, H⟩ := H
                                replace H : (if t207 = true then (if x9_42 = a1 then (if 0 ≤ a0 then (if a0 < (t177.length : Int) then (if (strOfNums x10_46).toList = ((rd_T28 t177 a0).f0).toList then ((some (([t191] : List Int) : List Int)).bind fun y209 => (if (strOfNums t188).size + (strOfNums y209).size ≤ 9223372036854775807 then (some (((strOfNums t188) ++ (strOfNums y209)).toList == ((rd_T28 t177 a0).f1).toList)) else (none))) else (some false)) else (none)) else (none)) else (some false)) else (some false)) = some r := H
                                have A55 := Aside0.mk A550
                                clear A550
                                by_cases c56 : t207 = true
                                · subst c56
                                  have H1 : (if x9_42 = a1 then (if 0 ≤ a0 then (if a0 < (t177.length : Int) then (if (strOfNums x10_46).toList = ((rd_T28 t177 a0).f0).toList then ((some (([t191] : List Int) : List Int)).bind fun y209 => (if (strOfNums t188).size + (strOfNums y209).size ≤ 9223372036854775807 then (some (((strOfNums t188) ++ (strOfNums y209)).toList == ((rd_T28 t177 a0).f1).toList)) else (none))) else (some false)) else (none)) else (none)) else (some false)) = some r := by rw [if_pos rfl] at H; exact H
                                  clear H
                                  have H := H1
                                  clear H1
                                  by_cases c57 : x9_42 = a1
                                  · rw [if_pos c57] at H
                                    have c57b0 : (x9_42 == a1) = true := beq_iff_eq.mpr c57
                                    have c57b1 : (x9_42 != a1) = false := bne_eq_false_iff_eq.mpr c57
                                    clear c57
                                    by_cases c58 : 0 ≤ a0
                                    · rw [if_pos c58] at H
                                      have c58b0 : decide (0 ≤ a0) = true := decide_eq_true c58
                                      clear c58
                                      by_cases c59 : a0 < (t177.length : Int)
                                      · rw [if_pos c59] at H
                                        have c59b0 : decide (a0 < (t177.length : Int)) = true := decide_eq_true c59
                                        clear c59
                                        by_cases c60 : (strOfNums x10_46).toList = ((rd_T28 t177 a0).f0).toList
                                        · rw [if_pos c60] at H
                                          have c60b0 : ((strOfNums x10_46).toList == ((rd_T28 t177 a0).f0).toList) = true := beq_iff_eq.mpr c60
                                          have c60b1 : ((strOfNums x10_46).toList != ((rd_T28 t177 a0).f0).toList) = false := bne_eq_false_iff_eq.mpr c60
                                          clear c60
                                          obtain ⟨y209, hy209⟩ : ∃ y_ : List Int, y_ = (([t191] : List Int)) := ⟨_, rfl⟩
                                          replace H : (if (strOfNums t188).size + (strOfNums y209).size ≤ 9223372036854775807 then (some (((strOfNums t188) ++ (strOfNums y209)).toList == ((rd_T28 t177 a0).f1).toList)) else (none)) = some r := by first | (rw [hy209]; with_reducible exact H) | (have H2_ := (Option.bind_some _ _).symm.trans H; rw [hy209]; with_reducible exact H2_) | (have H2_ := (Option.bind_some _ _).symm.trans H; with_reducible exact H2_) | with_reducible exact H | (rw [hy209]; exact H) | exact H
                                          have Ny209 := Aside0.mk hy209
                                          clear hy209
                                          by_cases c61 : (strOfNums t188).size + (strOfNums y209).size ≤ 9223372036854775807
                                          · rw [if_pos c61] at H
                                            have c61b0 := eq_true c61
                                            have c61b1 : decide ((strOfNums t188).size + (strOfNums y209).size ≤ 9223372036854775807) = true := decide_eq_true c61
                                            try have c61b2 : (9223372036854775807 < (strOfNums t188).size + (strOfNums y209).size) = False := eq_false (Nat.not_lt.2 c61)
                                            obtain rfl := Option.some.inj H
                                            try go_wp2
                                            have n0_ := Aside0.mk (Kd.R_drew HO_5.out)
                                            have n1_ := Aside0.mk (Go.Proofs.YtplmmblofhhikaaDoor.Lit.LR_drew HO_10.out)
                                            have n2_ := Aside0.mk (Kd.R_drew HO_198002.out)
                                            have n3_ := Aside0.mk (Kd.R_drew HO_198003.out)
                                            have n4_ := Aside0.mk (Kd.R_drew HO_198005.out)
                                            have n5_ := Aside0.mk (blk_drew BK197.out)
                                            have n6_ := Aside0.mk (below_drew1 HB.out)
                                            clear HO_5
                                            clear HO_10
                                            clear HO_198002
                                            clear HO_198003
                                            clear HO_198005
                                            clear BK197
                                            clear HB
                                            have HO_5 := n0_
                                            have HO_10 := n1_
                                            have HO_198002 := n2_
                                            have HO_198003 := n3_
                                            have HO_198005 := n4_
                                            have BK197 := n5_
                                            have HB := n6_
                                            clear n0_ n1_ n2_ n3_ n4_ n5_ n6_
                                            have p208 : 0 ≤ (a0 : Int) := of_decide_eq_true (by first | (with_reducible assumption) | assumption)
                                            have q208 : a0 < (t177.length : Int) := of_decide_eq_true (by first | (with_reducible assumption) | assumption)
                                            obtain ⟨ad208, e208, hx208_0, hx208_1, hx208_2⟩ := at_T28 (Kd.R_reads' HO_5.out).2.2 a0 p208 q208
                                            obtain rfl : ad198 = ad208 := (by injection e208)
                                            replace p208 := eq_true p208
                                            replace q208 := eq_true q208
                                            have p212 : 0 ≤ (a0 : Int) := of_decide_eq_true (by first | (with_reducible assumption) | assumption)
                                            have q212 : a0 < (t177.length : Int) := of_decide_eq_true (by first | (with_reducible assumption) | assumption)
                                            obtain ⟨ad212, e212, hx212_0, hx212_1, hx212_2⟩ := at_T28 (Kd.R_reads' HO_5.out).2.2 a0 p212 q212
                                            obtain rfl : ad198 = ad212 := (by injection e212)
                                            replace p212 := eq_true p212
                                            replace q212 := eq_true q212
                                            refine start_ (n := 33) (S := fun w' => w'.cell? ⟨gb197, 0, none⟩ = some (.int .i64 t183) ∧ w'.cell? ⟨gb197, 1, none⟩ = some (.int .u8 t184) ∧ w'.cell? ⟨gb197, 2, none⟩ = some (.slice Ao27 t185.length co27) ∧ w'.cell? ⟨gb197, 3, none⟩ = some (.slice Ao28 t188.length co28) ∧ w'.cell? ⟨gb197, 4, none⟩ = some (.int .u8 t191) ∧ w'.cell? ⟨gb197, 5, none⟩ = some (.slice Ao29 t192.length co29) ∧ w'.cell? ⟨gb197, 6, none⟩ = some (.bool t195) ∧ w'.cell? (ad198.add ((a0).toNat * 3)) = some (.string ((rd_T28 t177 a0).f0)) ∧ w'.cell? ⟨(ad198.add ((a0).toNat * 3)).block, (ad198.add ((a0).toNat * 3)).off + 1, none⟩ = some (.string ((rd_T28 t177 a0).f1)) ∧ w'.cell? ⟨(ad198.add ((a0).toNat * 3)).block, (ad198.add ((a0).toNat * 3)).off + 2, none⟩ = some (.int .i64 ((rd_T28 t177 a0).f2)) ∧ w'.cell? (ad198.add ((a0).toNat * 3)) = some (.string ((rd_T28 t177 a0).f0)) ∧ w'.cell? ⟨(ad198.add ((a0).toNat * 3)).block, (ad198.add ((a0).toNat * 3)).off + 1, none⟩ = some (.string ((rd_T28 t177 a0).f1)) ∧ w'.cell? ⟨(ad198.add ((a0).toNat * 3)).block, (ad198.add ((a0).toNat * 3)).off + 2, none⟩ = some (.int .i64 ((rd_T28 t177 a0).f2)) ∧ (convert 30 9 u10).run Tryd.prog w' = .ok (.string (strOfNums x10_46)) w' ∧ (convert 30 9 (.slice Ao28 t188.length co28)).run Tryd.prog w' = .ok (.string (strOfNums t188)) w') (ds := []) #[false, false, false, false, false, false, false, false, false, false, false, false, false, false, false, false, false, false, false, false, false, false, false, false, false, false, false, false, false, false, false, false, false] (by kernel_rfl) rfl rfl ⟨(blk_cell BK197.out 0).trans rfl, (blk_cell BK197.out 1).trans rfl, (blk_cell BK197.out 2).trans rfl, (blk_cell BK197.out 3).trans rfl, (blk_cell BK197.out 4).trans rfl, (blk_cell BK197.out 5).trans rfl, (blk_cell BK197.out 6).trans rfl, hx208_0, hx208_1, hx208_2, hx212_0, hx212_1, hx212_2, (Go.Proofs.YtplmmblofhhikaaDoor.Lit.LR_string (P := Tryd.prog) Tryd.underlying30 Tryd.underlying5 Tryd.underlying9 HO_10.out), (own_string (P := Tryd.prog) Tryd.underlying30 Tryd.underlying5 Tryd.underlying9 (Kd.own_of_R HO_198003.out))⟩ (fun hHeld => ?_); refine with_tabW laws_FnNumberRead.tab14 laws_FnNumberRead.bits14 (fun HT_ HW_ => ?_)
                                            generalize wc.drew = w62 at HO_5 HO_10 HO_198002 HO_198003 HO_198005 BK197 HB hx208_0 hx208_1 hx208_2 hx212_0 hx212_1 hx212_2 hHeld ⊢
                                            refine one_ (i := 0) (N := some 92) #[true, false, false, false, false, false, false, false, false, false, false, false, false, false, false, false, false, false, false, false, false, false, false, false, false, false, false, false, false, false, false, false, false] rfl rfl (one_of HT_.out (by kernel_rfl)) (by decide) (fun K hK => ?_)
                                            refine goes_ Tryd.func15 (by kernel_rfl) rfl #[] (by rfl) rfl rfl (by (try simp only [List.map_toArray, List.map_cons, List.map_nil]); first | done | rfl | (simp only [List.length_drop, List.length_take]; rfl) | (simp [Act.eval, *]; done) | (simp [Act.eval, *]; unfold wrap64; omega)) ?_
                                            with_reducible refine (laws_makeAwake.calls kj46  true _ ?side1 A55.out).mono ?_
                                            (case side1 => exact HLD.out.below (by repeat (first | (with_reducible first | exact HB.out | apply below_alloc | apply Go.Proofs.YtplmmblofhhikaaDoor.Ext.below_bytes | apply pw_below_drewN | apply below_drew1 | refine below_set ?_ GE197.out) | exact HB.out)))
                                            rintro e w63 ⟨rfl, hb⟩
                                            have HS7_ := (hb.cell (World.block_lt_of_cell? _ _ (hHeld.2.2.2.2.2.2.2.1))).trans (hHeld.2.2.2.2.2.2.2.1)
                                            have HS8_ := (hb.cell (World.block_lt_of_cell? _ _ (hHeld.2.2.2.2.2.2.2.2.1))).trans (hHeld.2.2.2.2.2.2.2.2.1)
                                            have HS9_ := (hb.cell (World.block_lt_of_cell? _ _ (hHeld.2.2.2.2.2.2.2.2.2.1))).trans (hHeld.2.2.2.2.2.2.2.2.2.1)
                                            have HS10_ := (hb.cell (World.block_lt_of_cell? _ _ (hHeld.2.2.2.2.2.2.2.2.2.2.1))).trans (hHeld.2.2.2.2.2.2.2.2.2.2.1)
                                            have HS11_ := (hb.cell (World.block_lt_of_cell? _ _ (hHeld.2.2.2.2.2.2.2.2.2.2.2.1))).trans (hHeld.2.2.2.2.2.2.2.2.2.2.2.1)
                                            have HS12_ := (hb.cell (World.block_lt_of_cell? _ _ (hHeld.2.2.2.2.2.2.2.2.2.2.2.2.1))).trans (hHeld.2.2.2.2.2.2.2.2.2.2.2.2.1)
                                            refine ⟨_, rfl, ?_⟩
                                            have n0_ := Aside0.mk (Kd.R_below (by (with_reducible repeat (first | apply Kd.R_alloc | apply Go.Proofs.YtplmmblofhhikaaDoor.Ext.R_bytes | apply Kd.R_drewN | apply Kd.R_drew)); exact HO_5.out) hb)
                                            have n1_ := Aside0.mk (Go.Proofs.YtplmmblofhhikaaDoor.Lit.LR_below (HO_10.out) hb)
                                            have n2_ := Aside0.mk (Kd.R_below (by (with_reducible repeat (first | apply Kd.R_alloc | apply Go.Proofs.YtplmmblofhhikaaDoor.Ext.R_bytes | apply Kd.R_drewN | apply Kd.R_drew)); exact HO_198002.out) hb)
                                            have n3_ := Aside0.mk (Kd.R_below (by (with_reducible repeat (first | apply Kd.R_alloc | apply Go.Proofs.YtplmmblofhhikaaDoor.Ext.R_bytes | apply Kd.R_drewN | apply Kd.R_drew)); exact HO_198003.out) hb)
                                            have n4_ := Aside0.mk (Kd.R_below (by (with_reducible repeat (first | apply Kd.R_alloc | apply Go.Proofs.YtplmmblofhhikaaDoor.Ext.R_bytes | apply Kd.R_drewN | apply Kd.R_drew)); exact HO_198005.out) hb)
                                            have n5_ := Aside0.mk (blk_below (g := gb197) (o := .cells #[.int .i64 t183, .int .u8 t184, .slice Ao27 t185.length co27, .slice Ao28 t188.length co28, .int .u8 t191, .slice Ao29 t192.length co29, .bool t195] 32 (0, 0)) (by (with_reducible repeat (first | refine blk_drewN ?_ _ | refine blk_drew ?_ | refine blk_alloc ?_ _)); exact BK197.out) hb)
                                            have n6_ := Aside0.mk (below_step (by repeat (first | (with_reducible first | exact HB.out | apply below_alloc | apply Go.Proofs.YtplmmblofhhikaaDoor.Ext.below_bytes | apply pw_below_drewN | apply below_drew1 | refine below_set ?_ GE197.out) | exact HB.out)) hb)
                                            clear HO_5
                                            clear HO_10
                                            clear HO_198002
                                            clear HO_198003
                                            clear HO_198005
                                            clear BK197
                                            clear HB
                                            have HO_5 := n0_
                                            have HO_10 := n1_
                                            have HO_198002 := n2_
                                            have HO_198003 := n3_
                                            have HO_198005 := n4_
                                            have BK197 := n5_
                                            have HB := n6_
                                            clear n0_ n1_ n2_ n3_ n4_ n5_ n6_
                                            (try clear hb)
                                            (try clear hb2)
                                            (try clear hk)
                                            (try clear hi)
                                            have hcv64 := Go.Proofs.YtplmmblofhhikaaDoor.Lit.LR_string (P := Tryd.prog) Tryd.underlying30 Tryd.underlying5 Tryd.underlying9 HO_10.out
                                            have hcv65 := own_string (P := Tryd.prog) Tryd.underlying30 Tryd.underlying5 Tryd.underlying9 (Kd.own_of_R HO_198003.out)
                                            refine hK.out _ _ ⟨(blk_cell BK197.out 0).trans rfl, (blk_cell BK197.out 1).trans rfl, (blk_cell BK197.out 2).trans rfl, (blk_cell BK197.out 3).trans rfl, (blk_cell BK197.out 4).trans rfl, (blk_cell BK197.out 5).trans rfl, (blk_cell BK197.out 6).trans rfl, HS7_, HS8_, HS9_, HS10_, HS11_, HS12_, (Go.Proofs.YtplmmblofhhikaaDoor.Lit.LR_string (P := Tryd.prog) Tryd.underlying30 Tryd.underlying5 Tryd.underlying9 HO_10.out), (own_string (P := Tryd.prog) Tryd.underlying30 Tryd.underlying5 Tryd.underlying9 (Kd.own_of_R HO_198003.out))⟩ (fun hHeld => ?_)
                                            clear hK K
                                            refine norm_ (a' := ?_) ?_ ?_
                                            rotate_left
                                            · show Act.put _ (some 92) _ = _
                                              simp only [Act.put, List.setIfInBounds_toArray, List.set_cons_zero, List.set_cons_succ, i64_w, i32_w]
                                              rfl
                                            refine pure_ (i := 1) (N := some 93) (v := ?_) (a' := ?_) #[true, true, false, false, false, false, false, false, false, false, false, false, false, false, false, false, false, false, false, false, false, false, false, false, false, false, false, false, false, false, false, false, false] rfl rfl (any_of HT_.out (by kernel_rfl)) (fun _ _ _ h => h) (Or.inl ⟨by rfl, ?_⟩) ?_ ?_
                                            rotate_left
                                            · intro w'
                                              go_simp
                                              with_reducible rfl
                                            rotate_left
                                            · simp only [Act.put, List.setIfInBounds_toArray, List.set_cons_zero, List.set_cons_succ, i64_w, i32_w]
                                              rfl
                                            refine pure_ (i := 2) (N := some 94) (v := ?_) (a' := ?_) #[true, true, true, false, false, false, false, false, false, false, false, false, false, false, false, false, false, false, false, false, false, false, false, false, false, false, false, false, false, false, false, false, false] rfl rfl (any_of HT_.out (by kernel_rfl)) (fun _ _ _ h => h) (Or.inl ⟨by rfl, ?_⟩) ?_ ?_
                                            rotate_left
                                            · intro w'
                                              go_simp
                                              with_reducible rfl
                                            rotate_left
                                            · simp only [Act.put, List.setIfInBounds_toArray, List.set_cons_zero, List.set_cons_succ, i64_w, i32_w]
                                              rfl
                                            refine pure_ (i := 3) (N := some 95) (v := ?_) (a' := ?_) #[true, true, true, true, false, false, false, false, false, false, false, false, false, false, false, false, false, false, false, false, false, false, false, false, false, false, false, false, false, false, false, false, false] rfl rfl (any_of HT_.out (by kernel_rfl)) (fun _ _ _ h => h) (Or.inl ⟨by rfl, ?_⟩) ?_ ?_
                                            rotate_left
                                            · intro w'
                                              go_simp
                                              with_reducible rfl
                                            rotate_left
                                            · simp only [Act.put, List.setIfInBounds_toArray, List.set_cons_zero, List.set_cons_succ, i64_w, i32_w]
                                              rfl
                                            refine pure_ (i := 4) (N := some 96) (v := ?_) (a' := ?_) #[true, true, true, true, true, false, false, false, false, false, false, false, false, false, false, false, false, false, false, false, false, false, false, false, false, false, false, false, false, false, false, false, false] rfl rfl (any_of HT_.out (by kernel_rfl)) (fun _ _ _ h => h) (Or.inl ⟨by rfl, ?_⟩) ?_ ?_
                                            rotate_left
                                            · intro w'
                                              go_simp
                                              with_reducible rfl
                                            rotate_left
                                            · simp only [Act.put, List.setIfInBounds_toArray, List.set_cons_zero, List.set_cons_succ, i64_w, i32_w]
                                              rfl
                                            refine pure_ (i := 5) (N := some 97) (v := ?_) (a' := ?_) #[true, true, true, true, true, true, false, false, false, false, false, false, false, false, false, false, false, false, false, false, false, false, false, false, false, false, false, false, false, false, false, false, false] rfl rfl (any_of HT_.out (by kernel_rfl)) (fun _ _ _ h => h) (Or.inl ⟨by rfl, ?_⟩) ?_ ?_
                                            rotate_left
                                            · intro w'
                                              go_simp
                                              with_reducible rfl
                                            rotate_left
                                            · simp only [Act.put, List.setIfInBounds_toArray, List.set_cons_zero, List.set_cons_succ, i64_w, i32_w]
                                              rfl
                                            refine pure_ (i := 6) (N := some 98) (v := ?_) (a' := ?_) #[true, true, true, true, true, true, true, false, false, false, false, false, false, false, false, false, false, false, false, false, false, false, false, false, false, false, false, false, false, false, false, false, false] rfl rfl (any_of HT_.out (by kernel_rfl)) (fun _ _ _ h => h) (Or.inl ⟨by rfl, ?_⟩) ?_ ?_
                                            rotate_left
                                            · intro w'
                                              go_simp
                                              with_reducible rfl
                                            rotate_left
                                            · simp only [Act.put, List.setIfInBounds_toArray, List.set_cons_zero, List.set_cons_succ, i64_w, i32_w]
                                              rfl
                                            refine pure_ (i := 7) (N := some 99) (v := ?_) (a' := ?_) #[true, true, true, true, true, true, true, true, false, false, false, false, false, false, false, false, false, false, false, false, false, false, false, false, false, false, false, false, false, false, false, false, false] rfl rfl (any_of HT_.out (by kernel_rfl)) (fun _ _ _ h => h) (Or.inl ⟨by rfl, ?_⟩) ?_ ?_
                                            rotate_left
                                            · intro w'
                                              go_simp
                                              with_reducible rfl
                                            rotate_left
                                            · simp only [Act.put, List.setIfInBounds_toArray, List.set_cons_zero, List.set_cons_succ, i64_w, i32_w]
                                              rfl
                                            refine take_ (i := 8) (N := some 100) (v := ?_) (a' := ?_) #[true, true, true, true, true, true, true, true, true, false, false, false, false, false, false, false, false, false, false, false, false, false, false, false, false, false, false, false, false, false, false, false, false] rfl rfl (take_ofW HT_.out HW_.out (by kernel_rfl)) (fun _ _ _ h => h) (Or.inl ⟨by rfl, ?_⟩) hHeld ?_ ?_
                                            rotate_left
                                            · rintro w' ⟨s0, s1, s2, s3, s4, s5, s6, s7, s8, s9, s10, s11, s12, sA, sB⟩
                                              go_simp
                                              with_reducible rfl
                                            rotate_left
                                            · simp only [Act.put, List.setIfInBounds_toArray, List.set_cons_zero, List.set_cons_succ, i64_w, i32_w]
                                              rfl
                                            refine pure_ (i := 9) (N := some 101) (v := ?_) (a' := ?_) #[true, true, true, true, true, true, true, true, true, true, false, false, false, false, false, false, false, false, false, false, false, false, false, false, false, false, false, false, false, false, false, false, false] rfl rfl (any_of HT_.out (by kernel_rfl)) (fun _ _ _ h => h) (Or.inl ⟨by rfl, ?_⟩) ?_ ?_
                                            rotate_left
                                            · intro w'
                                              go_simp
                                              with_reducible rfl
                                            rotate_left
                                            · simp only [Act.put, List.setIfInBounds_toArray, List.set_cons_zero, List.set_cons_succ, i64_w, i32_w]
                                              rfl
                                            refine pure_ (i := 10) (N := some 102) (v := ?_) (a' := ?_) #[true, true, true, true, true, true, true, true, true, true, true, false, false, false, false, false, false, false, false, false, false, false, false, false, false, false, false, false, false, false, false, false, false] rfl rfl (any_of HT_.out (by kernel_rfl)) (fun _ _ _ h => h) (Or.inl ⟨by rfl, ?_⟩) ?_ ?_
                                            rotate_left
                                            · intro w'
                                              go_simp
                                              with_reducible rfl
                                            rotate_left
                                            · simp only [Act.put, List.setIfInBounds_toArray, List.set_cons_zero, List.set_cons_succ, i64_w, i32_w]
                                              rfl
                                            refine pure_ (i := 11) (N := some 103) (v := ?_) (a' := ?_) #[true, true, true, true, true, true, true, true, true, true, true, true, false, false, false, false, false, false, false, false, false, false, false, false, false, false, false, false, false, false, false, false, false] rfl rfl (any_of HT_.out (by kernel_rfl)) (fun _ _ _ h => h) (Or.inl ⟨by rfl, ?_⟩) ?_ ?_
                                            rotate_left
                                            · intro w'
                                              go_simp
                                              with_reducible rfl
                                            rotate_left
                                            · simp only [Act.put, List.setIfInBounds_toArray, List.set_cons_zero, List.set_cons_succ, i64_w, i32_w]
                                              rfl
                                            refine pure_ (i := 12) (N := some 104) (v := ?_) (a' := ?_) #[true, true, true, true, true, true, true, true, true, true, true, true, true, false, false, false, false, false, false, false, false, false, false, false, false, false, false, false, false, false, false, false, false] rfl rfl (any_of HT_.out (by kernel_rfl)) (fun _ _ _ h => h) (Or.inl ⟨by rfl, ?_⟩) ?_ ?_
                                            rotate_left
                                            · intro w'
                                              go_simp
                                              with_reducible rfl
                                            rotate_left
                                            · simp only [Act.put, List.setIfInBounds_toArray, List.set_cons_zero, List.set_cons_succ, i64_w, i32_w]
                                              rfl
                                            refine take_ (i := 13) (N := some 105) (v := ?_) (a' := ?_) #[true, true, true, true, true, true, true, true, true, true, true, true, true, true, false, false, false, false, false, false, false, false, false, false, false, false, false, false, false, false, false, false, false] rfl rfl (take_ofW HT_.out HW_.out (by kernel_rfl)) (fun _ _ _ h => h) (Or.inl ⟨by rfl, ?_⟩) hHeld ?_ ?_
                                            rotate_left
                                            · rintro w' ⟨s0, s1, s2, s3, s4, s5, s6, s7, s8, s9, s10, s11, s12, sA, sB⟩
                                              go_simp
                                              with_reducible rfl
                                            rotate_left
                                            · simp only [Act.put, List.setIfInBounds_toArray, List.set_cons_zero, List.set_cons_succ, i64_w, i32_w]
                                              rfl
                                            refine pure_ (i := 14) (N := some 106) (v := ?_) (a' := ?_) #[true, true, true, true, true, true, true, true, true, true, true, true, true, true, true, false, false, false, false, false, false, false, false, false, false, false, false, false, false, false, false, false, false] rfl rfl (any_of HT_.out (by kernel_rfl)) (fun _ _ _ h => h) (Or.inl ⟨by rfl, ?_⟩) ?_ ?_
                                            rotate_left
                                            · intro w'
                                              go_simp
                                              with_reducible rfl
                                            rotate_left
                                            · simp only [Act.put, List.setIfInBounds_toArray, List.set_cons_zero, List.set_cons_succ, i64_w, i32_w]
                                              rfl
                                            refine pure_ (i := 15) (N := some 107) (v := ?_) (a' := ?_) #[true, true, true, true, true, true, true, true, true, true, true, true, true, true, true, true, false, false, false, false, false, false, false, false, false, false, false, false, false, false, false, false, false] rfl rfl (any_of HT_.out (by kernel_rfl)) (fun _ _ _ h => h) (Or.inl ⟨by rfl, ?_⟩) ?_ ?_
                                            rotate_left
                                            · intro w'
                                              go_simp
                                              with_reducible rfl
                                            rotate_left
                                            · simp only [Act.put, List.setIfInBounds_toArray, List.set_cons_zero, List.set_cons_succ, i64_w, i32_w]
                                              rfl
                                            refine pure_ (i := 16) (N := some 108) (v := ?_) (a' := ?_) #[true, true, true, true, true, true, true, true, true, true, true, true, true, true, true, true, true, false, false, false, false, false, false, false, false, false, false, false, false, false, false, false, false] rfl rfl (any_of HT_.out (by kernel_rfl)) (fun _ _ _ h => h) (Or.inl ⟨by rfl, ?_⟩) ?_ ?_
                                            rotate_left
                                            · intro w'
                                              go_simp
                                              with_reducible rfl
                                            rotate_left
                                            · simp only [Act.put, List.setIfInBounds_toArray, List.set_cons_zero, List.set_cons_succ, i64_w, i32_w]
                                              rfl
                                            refine pure_ (i := 17) (N := some 109) (v := ?_) (a' := ?_) #[true, true, true, true, true, true, true, true, true, true, true, true, true, true, true, true, true, true, false, false, false, false, false, false, false, false, false, false, false, false, false, false, false] rfl rfl (any_of HT_.out (by kernel_rfl)) (fun _ _ _ h => h) (Or.inl ⟨by rfl, ?_⟩) ?_ ?_
                                            rotate_left
                                            · intro w'
                                              go_simp
                                              with_reducible rfl
                                            rotate_left
                                            · simp only [Act.put, List.setIfInBounds_toArray, List.set_cons_zero, List.set_cons_succ, i64_w, i32_w]
                                              rfl
                                            refine pure_ (i := 20) (N := some 112) (v := ?_) (a' := ?_) #[true, true, true, true, true, true, true, true, true, true, true, true, true, true, true, true, true, true, false, false, true, false, false, false, false, false, false, false, false, false, false, false, false] rfl rfl (any_of HT_.out (by kernel_rfl)) (fun _ _ _ h => h) (Or.inl ⟨by rfl, ?_⟩) ?_ ?_
                                            rotate_left
                                            · intro w'
                                              go_simp
                                              with_reducible rfl
                                            rotate_left
                                            · simp only [Act.put, List.setIfInBounds_toArray, List.set_cons_zero, List.set_cons_succ, i64_w, i32_w]
                                              rfl
                                            refine pure_ (i := 25) (N := some 117) (v := ?_) (a' := ?_) #[true, true, true, true, true, true, true, true, true, true, true, true, true, true, true, true, true, true, false, false, true, false, false, false, false, true, false, false, false, false, false, false, false] rfl rfl (any_of HT_.out (by kernel_rfl)) (fun _ _ _ h => h) (Or.inl ⟨by rfl, ?_⟩) ?_ ?_
                                            rotate_left
                                            · intro w'
                                              go_simp
                                              with_reducible rfl
                                            rotate_left
                                            · simp only [Act.put, List.setIfInBounds_toArray, List.set_cons_zero, List.set_cons_succ, i64_w, i32_w]
                                              rfl
                                            refine pure_ (i := 26) (N := some 118) (v := ?_) (a' := ?_) #[true, true, true, true, true, true, true, true, true, true, true, true, true, true, true, true, true, true, false, false, true, false, false, false, false, true, true, false, false, false, false, false, false] rfl rfl (any_of HT_.out (by kernel_rfl)) (fun _ _ _ h => h) (Or.inl ⟨by rfl, ?_⟩) ?_ ?_
                                            rotate_left
                                            · intro w'
                                              go_simp
                                              with_reducible rfl
                                            rotate_left
                                            · simp only [Act.put, List.setIfInBounds_toArray, List.set_cons_zero, List.set_cons_succ, i64_w, i32_w]
                                              rfl
                                            refine pure_ (i := 27) (N := some 119) (v := ?_) (a' := ?_) #[true, true, true, true, true, true, true, true, true, true, true, true, true, true, true, true, true, true, false, false, true, false, false, false, false, true, true, true, false, false, false, false, false] rfl rfl (any_of HT_.out (by kernel_rfl)) (fun _ _ _ h => h) (Or.inl ⟨by rfl, ?_⟩) ?_ ?_
                                            rotate_left
                                            · intro w'
                                              go_simp
                                              with_reducible rfl
                                            rotate_left
                                            · simp only [Act.put, List.setIfInBounds_toArray, List.set_cons_zero, List.set_cons_succ, i64_w, i32_w]
                                              rfl
                                            refine pure_ (i := 28) (N := some 120) (v := ?_) (a' := ?_) #[true, true, true, true, true, true, true, true, true, true, true, true, true, true, true, true, true, true, false, false, true, false, false, false, false, true, true, true, true, false, false, false, false] rfl rfl (any_of HT_.out (by kernel_rfl)) (fun _ _ _ h => h) (Or.inl ⟨by rfl, ?_⟩) ?_ ?_
                                            rotate_left
                                            · intro w'
                                              go_simp
                                              with_reducible rfl
                                            rotate_left
                                            · simp only [Act.put, List.setIfInBounds_toArray, List.set_cons_zero, List.set_cons_succ, i64_w, i32_w]
                                              rfl
                                            refine take_ (i := 18) (N := some 110) (v := ?_) (a' := ?_) #[true, true, true, true, true, true, true, true, true, true, true, true, true, true, true, true, true, true, true, false, true, false, false, false, false, true, true, true, true, false, false, false, false] rfl rfl (take_ofW HT_.out HW_.out (by kernel_rfl)) (fun _ _ _ h => h) (Or.inl ⟨by rfl, ?_⟩) hHeld ?_ ?_
                                            rotate_left
                                            · rintro w' ⟨s0, s1, s2, s3, s4, s5, s6, s7, s8, s9, s10, s11, s12, sA, sB⟩
                                              go_simp
                                              with_reducible rfl
                                            rotate_left
                                            · simp only [Act.put, List.setIfInBounds_toArray, List.set_cons_zero, List.set_cons_succ, i64_w, i32_w]
                                              rfl
                                            refine take_ (i := 19) (N := some 111) (v := ?_) (a' := ?_) #[true, true, true, true, true, true, true, true, true, true, true, true, true, true, true, true, true, true, true, true, true, false, false, false, false, true, true, true, true, false, false, false, false] rfl rfl (take_ofW HT_.out HW_.out (by kernel_rfl)) (fun _ _ _ h => h) (Or.inl ⟨by rfl, ?_⟩) hHeld ?_ ?_
                                            rotate_left
                                            · rintro w' ⟨s0, s1, s2, s3, s4, s5, s6, s7, s8, s9, s10, s11, s12, sA, sB⟩
                                              go_simp
                                              with_reducible rfl
                                            rotate_left
                                            · simp only [Act.put, List.setIfInBounds_toArray, List.set_cons_zero, List.set_cons_succ, i64_w, i32_w]
                                              rfl
                                            refine take_ (i := 21) (N := some 113) (v := ?_) (a' := ?_) #[true, true, true, true, true, true, true, true, true, true, true, true, true, true, true, true, true, true, true, true, true, true, false, false, false, true, true, true, true, false, false, false, false] rfl rfl (take_ofW HT_.out HW_.out (by kernel_rfl)) (fun _ _ _ h => h) (Or.inl ⟨by rfl, ?_⟩) hHeld ?_ ?_
                                            rotate_left
                                            · rintro w' ⟨s0, s1, s2, s3, s4, s5, s6, s7, s8, s9, s10, s11, s12, sA, sB⟩
                                              go_simp
                                              with_reducible rfl
                                            rotate_left
                                            · simp only [Act.put, List.setIfInBounds_toArray, List.set_cons_zero, List.set_cons_succ, i64_w, i32_w]
                                              rfl
                                            refine take_ (i := 29) (N := some 121) (v := ?_) (a' := ?_) #[true, true, true, true, true, true, true, true, true, true, true, true, true, true, true, true, true, true, true, true, true, true, false, false, false, true, true, true, true, true, false, false, false] rfl rfl (take_ofW HT_.out HW_.out (by kernel_rfl)) (fun _ _ _ h => h) (Or.inl ⟨by rfl, ?_⟩) hHeld ?_ ?_
                                            rotate_left
                                            · rintro w' ⟨s0, s1, s2, s3, s4, s5, s6, s7, s8, s9, s10, s11, s12, sA, sB⟩
                                              go_simp
                                              with_reducible rfl
                                            rotate_left
                                            · simp only [Act.put, List.setIfInBounds_toArray, List.set_cons_zero, List.set_cons_succ, i64_w, i32_w]
                                              rfl
                                            refine one_ (i := 22) (N := some 114) #[true, true, true, true, true, true, true, true, true, true, true, true, true, true, true, true, true, true, true, true, true, true, true, false, false, true, true, true, true, true, false, false, false] rfl rfl (one_of HT_.out (by kernel_rfl)) (by decide) (fun K hK => ?_)
                                            refine Kd.R_lit_step (Kd.int .u8) _ 5 ?hg (N := 114) ?hd (xs := ([t191] : List Int)) (inner := [.int .u8 t191]) (ok := fun _ => True) (okp := fun _ => True) ?hr ?hp (fun _ hk => hk) trivial (Below.refl _ _) (Nat.le_refl _) (by simp) ?_; (case hd => rfl); (case hg => rfl); (case hr => first | (go_simp; done) | (go_simp; rfl)); (case hp => exact (Reps.one (show Kd.M (Kd.int .u8) _ _ _ t191 [.int .u8 t191] from rfl) (Reps.none _ _)))
                                            intro v210 w66 ho67 hb hg_ hnew_
                                            have HS7_ := (hb.cell (World.block_lt_of_cell? _ _ (hHeld.2.2.2.2.2.2.2.1))).trans (hHeld.2.2.2.2.2.2.2.1)
                                            have HS8_ := (hb.cell (World.block_lt_of_cell? _ _ (hHeld.2.2.2.2.2.2.2.2.1))).trans (hHeld.2.2.2.2.2.2.2.2.1)
                                            have HS9_ := (hb.cell (World.block_lt_of_cell? _ _ (hHeld.2.2.2.2.2.2.2.2.2.1))).trans (hHeld.2.2.2.2.2.2.2.2.2.1)
                                            have HS10_ := (hb.cell (World.block_lt_of_cell? _ _ (hHeld.2.2.2.2.2.2.2.2.2.2.1))).trans (hHeld.2.2.2.2.2.2.2.2.2.2.1)
                                            have HS11_ := (hb.cell (World.block_lt_of_cell? _ _ (hHeld.2.2.2.2.2.2.2.2.2.2.2.1))).trans (hHeld.2.2.2.2.2.2.2.2.2.2.2.1)
                                            have HS12_ := (hb.cell (World.block_lt_of_cell? _ _ (hHeld.2.2.2.2.2.2.2.2.2.2.2.2.1))).trans (hHeld.2.2.2.2.2.2.2.2.2.2.2.2.1)
                                            clear hg_ hnew_
                                            (first | rw [← Ny209.out] at ho67 | (simp only [Int.reduceToNat] at ho67; rw [← Ny209.out] at ho67))
                                            have n0_ := Aside0.mk (Kd.R_below (by (with_reducible repeat (first | apply Kd.R_alloc | apply Go.Proofs.YtplmmblofhhikaaDoor.Ext.R_bytes | apply Kd.R_drewN | apply Kd.R_drew)); exact HO_5.out) hb)
                                            have n1_ := Aside0.mk (Go.Proofs.YtplmmblofhhikaaDoor.Lit.LR_elder' (HO_10.out) (Kd.R_base ho67) hb)
                                            have n2_ := Aside0.mk (Kd.R_below (by (with_reducible repeat (first | apply Kd.R_alloc | apply Go.Proofs.YtplmmblofhhikaaDoor.Ext.R_bytes | apply Kd.R_drewN | apply Kd.R_drew)); exact HO_198002.out) hb)
                                            have n3_ := Aside0.mk (Kd.R_elder' (by (with_reducible repeat (first | apply Kd.R_alloc | apply Go.Proofs.YtplmmblofhhikaaDoor.Ext.R_bytes | apply Kd.R_drewN | apply Kd.R_drew)); exact HO_198003.out) (Kd.R_base ho67) hb)
                                            have n4_ := Aside0.mk (Kd.R_elder' (by (with_reducible repeat (first | apply Kd.R_alloc | apply Go.Proofs.YtplmmblofhhikaaDoor.Ext.R_bytes | apply Kd.R_drewN | apply Kd.R_drew)); exact HO_198005.out) (Kd.R_base ho67) hb)
                                            have n5_ := Aside0.mk (Kd.R_lower (Kd.R_new' (Kd.R_new' (Kd.R_new' ho67 (Go.Proofs.YtplmmblofhhikaaDoor.Lit.LR_lt (HO_10.out))) (Kd.R_lt (by (with_reducible repeat (first | apply Kd.R_alloc | apply Go.Proofs.YtplmmblofhhikaaDoor.Ext.R_bytes | apply Kd.R_drewN | apply Kd.R_drew)); exact HO_198003.out))) (Kd.R_lt (by (with_reducible repeat (first | apply Kd.R_alloc | apply Go.Proofs.YtplmmblofhhikaaDoor.Ext.R_bytes | apply Kd.R_drewN | apply Kd.R_drew)); exact HO_198005.out))) (below_size (by repeat (first | (with_reducible first | exact HB.out | apply below_alloc | apply Go.Proofs.YtplmmblofhhikaaDoor.Ext.below_bytes | apply pw_below_drewN | apply below_drew1 | refine below_set ?_ GE197.out) | exact HB.out))))
                                            have n6_ := Aside0.mk (blk_below (g := gb197) (o := .cells #[.int .i64 t183, .int .u8 t184, .slice Ao27 t185.length co27, .slice Ao28 t188.length co28, .int .u8 t191, .slice Ao29 t192.length co29, .bool t195] 32 (0, 0)) (by (with_reducible repeat (first | refine blk_drewN ?_ _ | refine blk_drew ?_ | refine blk_alloc ?_ _)); exact BK197.out) hb)
                                            have n7_ := Aside0.mk (below_step (by repeat (first | (with_reducible first | exact HB.out | apply below_alloc | apply Go.Proofs.YtplmmblofhhikaaDoor.Ext.below_bytes | apply pw_below_drewN | apply below_drew1 | refine below_set ?_ GE197.out) | exact HB.out)) hb)
                                            clear HO_5
                                            clear HO_10
                                            clear HO_198002
                                            clear HO_198003
                                            clear HO_198005
                                            clear BK197
                                            clear HB
                                            have HO_5 := n0_
                                            have HO_10 := n1_
                                            have HO_198002 := n2_
                                            have HO_198003 := n3_
                                            have HO_198005 := n4_
                                            have HO211 := n5_
                                            have BK197 := n6_
                                            have HB := n7_
                                            clear n0_ n1_ n2_ n3_ n4_ n5_ n6_ n7_
                                            clear hb ho67
                                            refine hK.out _ _ ⟨(blk_cell BK197.out 0).trans rfl, (blk_cell BK197.out 1).trans rfl, (blk_cell BK197.out 2).trans rfl, (blk_cell BK197.out 3).trans rfl, (blk_cell BK197.out 4).trans rfl, (blk_cell BK197.out 5).trans rfl, (blk_cell BK197.out 6).trans rfl, HS7_, HS8_, HS9_, HS10_, HS11_, HS12_, (Go.Proofs.YtplmmblofhhikaaDoor.Lit.LR_string (P := Tryd.prog) Tryd.underlying30 Tryd.underlying5 Tryd.underlying9 HO_10.out), (own_string (P := Tryd.prog) Tryd.underlying30 Tryd.underlying5 Tryd.underlying9 (Kd.own_of_R HO_198003.out))⟩ (fun hHeld => ?_)
                                            clear hK K
                                            refine norm_ (a' := ?_) ?_ ?_
                                            rotate_left
                                            · show Act.put _ (some 114) _ = _
                                              simp only [Act.put, List.setIfInBounds_toArray, List.set_cons_zero, List.set_cons_succ, i64_w, i32_w]
                                              rfl
                                            refine one_ (i := 23) (N := some 115) #[true, true, true, true, true, true, true, true, true, true, true, true, true, true, true, true, true, true, true, true, true, true, true, true, false, true, true, true, true, true, false, false, false] rfl rfl (one_of HT_.out (by kernel_rfl)) (by decide) (fun K hK => ?_)
                                            have hcv68 := own_string (P := Tryd.prog) Tryd.underlying30 Tryd.underlying5 Tryd.underlying9 (Kd.own_of_R HO211.out)
                                            refine value_ (w1 := ?_) (v := ?_) (by rfl) rfl ?_ ?_
                                            rotate_left 2
                                            · go_simp
                                              constructor
                                              · rfl
                                              · rfl
                                            clear hcv68
                                            refine hK.out _ _ hHeld (fun hHeld => ?_)
                                            clear hK K
                                            refine norm_ (a' := ?_) ?_ ?_
                                            rotate_left
                                            · show Act.put _ (some 115) _ = _
                                              simp only [Act.put, List.setIfInBounds_toArray, List.set_cons_zero, List.set_cons_succ, i64_w, i32_w]
                                              rfl
                                            refine pure_ (i := 24) (N := some 116) (v := ?_) (a' := ?_) #[true, true, true, true, true, true, true, true, true, true, true, true, true, true, true, true, true, true, true, true, true, true, true, true, true, true, true, true, true, true, false, false, false] rfl rfl (any_of HT_.out (by kernel_rfl)) (fun _ _ _ h => h) (Or.inl ⟨by rfl, ?_⟩) ?_ ?_
                                            rotate_left
                                            · intro w'
                                              go_simp
                                              with_reducible rfl
                                            rotate_left
                                            · simp only [Act.put, List.setIfInBounds_toArray, List.set_cons_zero, List.set_cons_succ, i64_w, i32_w]
                                              rfl
                                            refine pure_ (i := 30) (N := some 122) (v := ?_) (a' := ?_) #[true, true, true, true, true, true, true, true, true, true, true, true, true, true, true, true, true, true, true, true, true, true, true, true, true, true, true, true, true, true, true, false, false] rfl rfl (any_of HT_.out (by kernel_rfl)) (fun _ _ _ h => h) (Or.inl ⟨by rfl, ?_⟩) ?_ ?_
                                            rotate_left
                                            · intro w'
                                              go_simp
                                              with_reducible rfl
                                            rotate_left
                                            · simp only [Act.put, List.setIfInBounds_toArray, List.set_cons_zero, List.set_cons_succ, i64_w, i32_w]
                                              rfl
                                            refine pure_ (i := 31) (N := some 123) (v := ?_) (a' := ?_) #[true, true, true, true, true, true, true, true, true, true, true, true, true, true, true, true, true, true, true, true, true, true, true, true, true, true, true, true, true, true, true, true, false] rfl rfl (any_of HT_.out (by kernel_rfl)) (fun _ _ _ h => h) (Or.inl ⟨by rfl, ?_⟩) ?_ ?_
                                            rotate_left
                                            · intro w'
                                              go_simp
                                              with_reducible rfl
                                            rotate_left
                                            · simp only [Act.put, List.setIfInBounds_toArray, List.set_cons_zero, List.set_cons_succ, i64_w, i32_w]
                                              rfl
                                            refine pure_ (i := 32) (N := some 4) (v := ?_) (a' := ?_) #[true, true, true, true, true, true, true, true, true, true, true, true, true, true, true, true, true, true, true, true, true, true, true, true, true, true, true, true, true, true, true, true, true] rfl rfl (any_of HT_.out (by kernel_rfl)) (fun _ _ _ h => h) (Or.inl ⟨by rfl, ?_⟩) ?_ ?_
                                            rotate_left
                                            · intro w'
                                              go_simp
                                              with_reducible rfl
                                            rotate_left
                                            · simp only [Act.put, List.setIfInBounds_toArray, List.set_cons_zero, List.set_cons_succ, i64_w, i32_w]
                                              rfl
                                            refine done_ (done_of HT_.out (by kernel_rfl)) ?_
                                            try go_wp2
                                            go_ret
                                            exact ⟨by first | rfl | (simp [errW_none, errW_some] <;> rfl) | (simp [*, errW_none, errW_some] <;> rfl), by repeat (first | (with_reducible first | exact HB.out | apply below_alloc | apply Go.Proofs.YtplmmblofhhikaaDoor.Ext.below_bytes | apply pw_below_drewN | apply below_drew1 | refine below_set ?_ GE197.out) | exact HB.out)⟩
                                          · rw [if_neg c61] at H
                                            exact absurd H (by simp)
                                        · rw [if_neg c60] at H
                                          have c60b0 : ((strOfNums x10_46).toList == ((rd_T28 t177 a0).f0).toList) = false := beq_eq_false_iff_ne.mpr c60
                                          have c60b1 : ((strOfNums x10_46).toList != ((rd_T28 t177 a0).f0).toList) = true := bne_iff_ne.mpr c60
                                          obtain rfl := Option.some.inj H
                                          try go_wp2
                                          have n0_ := Aside0.mk (Kd.R_drew HO_5.out)
                                          have n1_ := Aside0.mk (Go.Proofs.YtplmmblofhhikaaDoor.Lit.LR_drew HO_10.out)
                                          have n2_ := Aside0.mk (Kd.R_drew HO_198002.out)
                                          have n3_ := Aside0.mk (Kd.R_drew HO_198003.out)
                                          have n4_ := Aside0.mk (Kd.R_drew HO_198005.out)
                                          have n5_ := Aside0.mk (blk_drew BK197.out)
                                          have n6_ := Aside0.mk (below_drew1 HB.out)
                                          clear HO_5
                                          clear HO_10
                                          clear HO_198002
                                          clear HO_198003
                                          clear HO_198005
                                          clear BK197
                                          clear HB
                                          have HO_5 := n0_
                                          have HO_10 := n1_
                                          have HO_198002 := n2_
                                          have HO_198003 := n3_
                                          have HO_198005 := n4_
                                          have BK197 := n5_
                                          have HB := n6_
                                          clear n0_ n1_ n2_ n3_ n4_ n5_ n6_
                                          have p208 : 0 ≤ (a0 : Int) := of_decide_eq_true (by first | (with_reducible assumption) | assumption)
                                          have q208 : a0 < (t177.length : Int) := of_decide_eq_true (by first | (with_reducible assumption) | assumption)
                                          obtain ⟨ad208, e208, hx208_0, hx208_1, hx208_2⟩ := at_T28 (Kd.R_reads' HO_5.out).2.2 a0 p208 q208
                                          obtain rfl : ad198 = ad208 := (by injection e208)
                                          replace p208 := eq_true p208
                                          replace q208 := eq_true q208
                                          refine start_ (n := 33) (S := fun w' => w'.cell? (ad198.add ((a0).toNat * 3)) = some (.string ((rd_T28 t177 a0).f0)) ∧ w'.cell? ⟨(ad198.add ((a0).toNat * 3)).block, (ad198.add ((a0).toNat * 3)).off + 1, none⟩ = some (.string ((rd_T28 t177 a0).f1)) ∧ w'.cell? ⟨(ad198.add ((a0).toNat * 3)).block, (ad198.add ((a0).toNat * 3)).off + 2, none⟩ = some (.int .i64 ((rd_T28 t177 a0).f2)) ∧ (convert 30 9 u10).run Tryd.prog w' = .ok (.string (strOfNums x10_46)) w') (ds := []) #[false, false, false, false, false, false, false, false, false, false, false, false, false, false, false, false, false, false, false, false, false, false, false, false, false, false, false, false, false, false, false, false, false] (by kernel_rfl) rfl rfl ⟨hx208_0, hx208_1, hx208_2, (Go.Proofs.YtplmmblofhhikaaDoor.Lit.LR_string (P := Tryd.prog) Tryd.underlying30 Tryd.underlying5 Tryd.underlying9 HO_10.out)⟩ (fun hHeld => ?_); refine with_tabW laws_FnNumberRead.tab14 laws_FnNumberRead.bits14 (fun HT_ HW_ => ?_)
                                          generalize wc.drew = w70 at HO_5 HO_10 HO_198002 HO_198003 HO_198005 BK197 HB hx208_0 hx208_1 hx208_2 hHeld ⊢
                                          refine one_ (i := 0) (N := some 92) #[true, false, false, false, false, false, false, false, false, false, false, false, false, false, false, false, false, false, false, false, false, false, false, false, false, false, false, false, false, false, false, false, false] rfl rfl (one_of HT_.out (by kernel_rfl)) (by decide) (fun K hK => ?_)
                                          refine goes_ Tryd.func15 (by kernel_rfl) rfl #[] (by rfl) rfl rfl (by (try simp only [List.map_toArray, List.map_cons, List.map_nil]); first | done | rfl | (simp only [List.length_drop, List.length_take]; rfl) | (simp [Act.eval, *]; done) | (simp [Act.eval, *]; unfold wrap64; omega)) ?_
                                          with_reducible refine (laws_makeAwake.calls kj46  true _ ?side1 A55.out).mono ?_
                                          (case side1 => exact HLD.out.below (by repeat (first | (with_reducible first | exact HB.out | apply below_alloc | apply Go.Proofs.YtplmmblofhhikaaDoor.Ext.below_bytes | apply pw_below_drewN | apply below_drew1 | refine below_set ?_ GE197.out) | exact HB.out)))
                                          rintro e w71 ⟨rfl, hb⟩
                                          have HS0_ := (hb.cell (World.block_lt_of_cell? _ _ (hHeld.1))).trans (hHeld.1)
                                          have HS1_ := (hb.cell (World.block_lt_of_cell? _ _ (hHeld.2.1))).trans (hHeld.2.1)
                                          have HS2_ := (hb.cell (World.block_lt_of_cell? _ _ (hHeld.2.2.1))).trans (hHeld.2.2.1)
                                          refine ⟨_, rfl, ?_⟩
                                          have n0_ := Aside0.mk (Kd.R_below (by (with_reducible repeat (first | apply Kd.R_alloc | apply Go.Proofs.YtplmmblofhhikaaDoor.Ext.R_bytes | apply Kd.R_drewN | apply Kd.R_drew)); exact HO_5.out) hb)
                                          have n1_ := Aside0.mk (Go.Proofs.YtplmmblofhhikaaDoor.Lit.LR_below (HO_10.out) hb)
                                          have n2_ := Aside0.mk (Kd.R_below (by (with_reducible repeat (first | apply Kd.R_alloc | apply Go.Proofs.YtplmmblofhhikaaDoor.Ext.R_bytes | apply Kd.R_drewN | apply Kd.R_drew)); exact HO_198002.out) hb)
                                          have n3_ := Aside0.mk (Kd.R_below (by (with_reducible repeat (first | apply Kd.R_alloc | apply Go.Proofs.YtplmmblofhhikaaDoor.Ext.R_bytes | apply Kd.R_drewN | apply Kd.R_drew)); exact HO_198003.out) hb)
                                          have n4_ := Aside0.mk (Kd.R_below (by (with_reducible repeat (first | apply Kd.R_alloc | apply Go.Proofs.YtplmmblofhhikaaDoor.Ext.R_bytes | apply Kd.R_drewN | apply Kd.R_drew)); exact HO_198005.out) hb)
                                          have n5_ := Aside0.mk (blk_below (g := gb197) (o := .cells #[.int .i64 t183, .int .u8 t184, .slice Ao27 t185.length co27, .slice Ao28 t188.length co28, .int .u8 t191, .slice Ao29 t192.length co29, .bool t195] 32 (0, 0)) (by (with_reducible repeat (first | refine blk_drewN ?_ _ | refine blk_drew ?_ | refine blk_alloc ?_ _)); exact BK197.out) hb)
                                          have n6_ := Aside0.mk (below_step (by repeat (first | (with_reducible first | exact HB.out | apply below_alloc | apply Go.Proofs.YtplmmblofhhikaaDoor.Ext.below_bytes | apply pw_below_drewN | apply below_drew1 | refine below_set ?_ GE197.out) | exact HB.out)) hb)
                                          clear HO_5
                                          clear HO_10
                                          clear HO_198002
                                          clear HO_198003
                                          clear HO_198005
                                          clear BK197
                                          clear HB
                                          have HO_5 := n0_
                                          have HO_10 := n1_
                                          have HO_198002 := n2_
                                          have HO_198003 := n3_
                                          have HO_198005 := n4_
                                          have BK197 := n5_
                                          have HB := n6_
                                          clear n0_ n1_ n2_ n3_ n4_ n5_ n6_
                                          (try clear hb)
                                          (try clear hb2)
                                          (try clear hk)
                                          (try clear hi)
                                          have hcv72 := Go.Proofs.YtplmmblofhhikaaDoor.Lit.LR_string (P := Tryd.prog) Tryd.underlying30 Tryd.underlying5 Tryd.underlying9 HO_10.out
                                          refine hK.out _ _ ⟨HS0_, HS1_, HS2_, (Go.Proofs.YtplmmblofhhikaaDoor.Lit.LR_string (P := Tryd.prog) Tryd.underlying30 Tryd.underlying5 Tryd.underlying9 HO_10.out)⟩ (fun hHeld => ?_)
                                          clear hK K
                                          refine norm_ (a' := ?_) ?_ ?_
                                          rotate_left
                                          · show Act.put _ (some 92) _ = _
                                            simp only [Act.put, List.setIfInBounds_toArray, List.set_cons_zero, List.set_cons_succ, i64_w, i32_w]
                                            rfl
                                          refine pure_ (i := 1) (N := some 93) (v := ?_) (a' := ?_) #[true, true, false, false, false, false, false, false, false, false, false, false, false, false, false, false, false, false, false, false, false, false, false, false, false, false, false, false, false, false, false, false, false] rfl rfl (any_of HT_.out (by kernel_rfl)) (fun _ _ _ h => h) (Or.inl ⟨by rfl, ?_⟩) ?_ ?_
                                          rotate_left
                                          · intro w'
                                            go_simp
                                            with_reducible rfl
                                          rotate_left
                                          · simp only [Act.put, List.setIfInBounds_toArray, List.set_cons_zero, List.set_cons_succ, i64_w, i32_w]
                                            rfl
                                          refine pure_ (i := 2) (N := some 94) (v := ?_) (a' := ?_) #[true, true, true, false, false, false, false, false, false, false, false, false, false, false, false, false, false, false, false, false, false, false, false, false, false, false, false, false, false, false, false, false, false] rfl rfl (any_of HT_.out (by kernel_rfl)) (fun _ _ _ h => h) (Or.inl ⟨by rfl, ?_⟩) ?_ ?_
                                          rotate_left
                                          · intro w'
                                            go_simp
                                            with_reducible rfl
                                          rotate_left
                                          · simp only [Act.put, List.setIfInBounds_toArray, List.set_cons_zero, List.set_cons_succ, i64_w, i32_w]
                                            rfl
                                          refine pure_ (i := 3) (N := some 95) (v := ?_) (a' := ?_) #[true, true, true, true, false, false, false, false, false, false, false, false, false, false, false, false, false, false, false, false, false, false, false, false, false, false, false, false, false, false, false, false, false] rfl rfl (any_of HT_.out (by kernel_rfl)) (fun _ _ _ h => h) (Or.inl ⟨by rfl, ?_⟩) ?_ ?_
                                          rotate_left
                                          · intro w'
                                            go_simp
                                            with_reducible rfl
                                          rotate_left
                                          · simp only [Act.put, List.setIfInBounds_toArray, List.set_cons_zero, List.set_cons_succ, i64_w, i32_w]
                                            rfl
                                          refine pure_ (i := 4) (N := some 96) (v := ?_) (a' := ?_) #[true, true, true, true, true, false, false, false, false, false, false, false, false, false, false, false, false, false, false, false, false, false, false, false, false, false, false, false, false, false, false, false, false] rfl rfl (any_of HT_.out (by kernel_rfl)) (fun _ _ _ h => h) (Or.inl ⟨by rfl, ?_⟩) ?_ ?_
                                          rotate_left
                                          · intro w'
                                            go_simp
                                            with_reducible rfl
                                          rotate_left
                                          · simp only [Act.put, List.setIfInBounds_toArray, List.set_cons_zero, List.set_cons_succ, i64_w, i32_w]
                                            rfl
                                          refine pure_ (i := 5) (N := some 97) (v := ?_) (a' := ?_) #[true, true, true, true, true, true, false, false, false, false, false, false, false, false, false, false, false, false, false, false, false, false, false, false, false, false, false, false, false, false, false, false, false] rfl rfl (any_of HT_.out (by kernel_rfl)) (fun _ _ _ h => h) (Or.inl ⟨by rfl, ?_⟩) ?_ ?_
                                          rotate_left
                                          · intro w'
                                            go_simp
                                            with_reducible rfl
                                          rotate_left
                                          · simp only [Act.put, List.setIfInBounds_toArray, List.set_cons_zero, List.set_cons_succ, i64_w, i32_w]
                                            rfl
                                          refine pure_ (i := 6) (N := some 98) (v := ?_) (a' := ?_) #[true, true, true, true, true, true, true, false, false, false, false, false, false, false, false, false, false, false, false, false, false, false, false, false, false, false, false, false, false, false, false, false, false] rfl rfl (any_of HT_.out (by kernel_rfl)) (fun _ _ _ h => h) (Or.inl ⟨by rfl, ?_⟩) ?_ ?_
                                          rotate_left
                                          · intro w'
                                            go_simp
                                            with_reducible rfl
                                          rotate_left
                                          · simp only [Act.put, List.setIfInBounds_toArray, List.set_cons_zero, List.set_cons_succ, i64_w, i32_w]
                                            rfl
                                          refine pure_ (i := 7) (N := some 99) (v := ?_) (a' := ?_) #[true, true, true, true, true, true, true, true, false, false, false, false, false, false, false, false, false, false, false, false, false, false, false, false, false, false, false, false, false, false, false, false, false] rfl rfl (any_of HT_.out (by kernel_rfl)) (fun _ _ _ h => h) (Or.inl ⟨by rfl, ?_⟩) ?_ ?_
                                          rotate_left
                                          · intro w'
                                            go_simp
                                            with_reducible rfl
                                          rotate_left
                                          · simp only [Act.put, List.setIfInBounds_toArray, List.set_cons_zero, List.set_cons_succ, i64_w, i32_w]
                                            rfl
                                          refine take_ (i := 8) (N := some 100) (v := ?_) (a' := ?_) #[true, true, true, true, true, true, true, true, true, false, false, false, false, false, false, false, false, false, false, false, false, false, false, false, false, false, false, false, false, false, false, false, false] rfl rfl (take_ofW HT_.out HW_.out (by kernel_rfl)) (fun _ _ _ h => h) (Or.inl ⟨by rfl, ?_⟩) hHeld ?_ ?_
                                          rotate_left
                                          · rintro w' ⟨s0, s1, s2, sA⟩
                                            go_simp
                                            with_reducible rfl
                                          rotate_left
                                          · simp only [Act.put, List.setIfInBounds_toArray, List.set_cons_zero, List.set_cons_succ, i64_w, i32_w]
                                            rfl
                                          refine pure_ (i := 9) (N := some 101) (v := ?_) (a' := ?_) #[true, true, true, true, true, true, true, true, true, true, false, false, false, false, false, false, false, false, false, false, false, false, false, false, false, false, false, false, false, false, false, false, false] rfl rfl (any_of HT_.out (by kernel_rfl)) (fun _ _ _ h => h) (Or.inl ⟨by rfl, ?_⟩) ?_ ?_
                                          rotate_left
                                          · intro w'
                                            go_simp
                                            with_reducible rfl
                                          rotate_left
                                          · simp only [Act.put, List.setIfInBounds_toArray, List.set_cons_zero, List.set_cons_succ, i64_w, i32_w]
                                            rfl
                                          refine pure_ (i := 10) (N := some 102) (v := ?_) (a' := ?_) #[true, true, true, true, true, true, true, true, true, true, true, false, false, false, false, false, false, false, false, false, false, false, false, false, false, false, false, false, false, false, false, false, false] rfl rfl (any_of HT_.out (by kernel_rfl)) (fun _ _ _ h => h) (Or.inl ⟨by rfl, ?_⟩) ?_ ?_
                                          rotate_left
                                          · intro w'
                                            go_simp
                                            with_reducible rfl
                                          rotate_left
                                          · simp only [Act.put, List.setIfInBounds_toArray, List.set_cons_zero, List.set_cons_succ, i64_w, i32_w]
                                            rfl
                                          refine pure_ (i := 11) (N := some 103) (v := ?_) (a' := ?_) #[true, true, true, true, true, true, true, true, true, true, true, true, false, false, false, false, false, false, false, false, false, false, false, false, false, false, false, false, false, false, false, false, false] rfl rfl (any_of HT_.out (by kernel_rfl)) (fun _ _ _ h => h) (Or.inl ⟨by rfl, ?_⟩) ?_ ?_
                                          rotate_left
                                          · intro w'
                                            go_simp
                                            with_reducible rfl
                                          rotate_left
                                          · simp only [Act.put, List.setIfInBounds_toArray, List.set_cons_zero, List.set_cons_succ, i64_w, i32_w]
                                            rfl
                                          refine pure_ (i := 12) (N := some 104) (v := ?_) (a' := ?_) #[true, true, true, true, true, true, true, true, true, true, true, true, true, false, false, false, false, false, false, false, false, false, false, false, false, false, false, false, false, false, false, false, false] rfl rfl (any_of HT_.out (by kernel_rfl)) (fun _ _ _ h => h) (Or.inl ⟨by rfl, ?_⟩) ?_ ?_
                                          rotate_left
                                          · intro w'
                                            go_simp
                                            with_reducible rfl
                                          rotate_left
                                          · simp only [Act.put, List.setIfInBounds_toArray, List.set_cons_zero, List.set_cons_succ, i64_w, i32_w]
                                            rfl
                                          refine take_ (i := 13) (N := some 105) (v := ?_) (a' := ?_) #[true, true, true, true, true, true, true, true, true, true, true, true, true, true, false, false, false, false, false, false, false, false, false, false, false, false, false, false, false, false, false, false, false] rfl rfl (take_ofW HT_.out HW_.out (by kernel_rfl)) (fun _ _ _ h => h) (Or.inl ⟨by rfl, ?_⟩) hHeld ?_ ?_
                                          rotate_left
                                          · rintro w' ⟨s0, s1, s2, sA⟩
                                            go_simp
                                            with_reducible rfl
                                          rotate_left
                                          · simp only [Act.put, List.setIfInBounds_toArray, List.set_cons_zero, List.set_cons_succ, i64_w, i32_w]
                                            rfl
                                          refine pure_ (i := 14) (N := some 106) (v := ?_) (a' := ?_) #[true, true, true, true, true, true, true, true, true, true, true, true, true, true, true, false, false, false, false, false, false, false, false, false, false, false, false, false, false, false, false, false, false] rfl rfl (any_of HT_.out (by kernel_rfl)) (fun _ _ _ h => h) (Or.inl ⟨by rfl, ?_⟩) ?_ ?_
                                          rotate_left
                                          · intro w'
                                            go_simp
                                            with_reducible rfl
                                          rotate_left
                                          · simp only [Act.put, List.setIfInBounds_toArray, List.set_cons_zero, List.set_cons_succ, i64_w, i32_w]
                                            rfl
                                          refine pure_ (i := 15) (N := some 107) (v := ?_) (a' := ?_) #[true, true, true, true, true, true, true, true, true, true, true, true, true, true, true, true, false, false, false, false, false, false, false, false, false, false, false, false, false, false, false, false, false] rfl rfl (any_of HT_.out (by kernel_rfl)) (fun _ _ _ h => h) (Or.inl ⟨by rfl, ?_⟩) ?_ ?_
                                          rotate_left
                                          · intro w'
                                            go_simp
                                            with_reducible rfl
                                          rotate_left
                                          · simp only [Act.put, List.setIfInBounds_toArray, List.set_cons_zero, List.set_cons_succ, i64_w, i32_w]
                                            rfl
                                          refine pure_ (i := 16) (N := some 108) (v := ?_) (a' := ?_) #[true, true, true, true, true, true, true, true, true, true, true, true, true, true, true, true, true, false, false, false, false, false, false, false, false, false, false, false, false, false, false, false, false] rfl rfl (any_of HT_.out (by kernel_rfl)) (fun _ _ _ h => h) (Or.inl ⟨by rfl, ?_⟩) ?_ ?_
                                          rotate_left
                                          · intro w'
                                            go_simp
                                            with_reducible rfl
                                          rotate_left
                                          · simp only [Act.put, List.setIfInBounds_toArray, List.set_cons_zero, List.set_cons_succ, i64_w, i32_w]
                                            rfl
                                          refine pure_ (i := 17) (N := some 109) (v := undef) (a' := ?_) #[true, true, true, true, true, true, true, true, true, true, true, true, true, true, true, true, true, true, false, false, false, false, false, false, false, false, false, false, false, false, false, false, false] rfl rfl (any_of HT_.out (by kernel_rfl)) (fun _ _ _ h => h) (Or.inr ⟨by rfl, rfl⟩) ?_ ?_
                                          rotate_left
                                          · simp only [Act.put, List.setIfInBounds_toArray, List.set_cons_zero, List.set_cons_succ, i64_w, i32_w]
                                            rfl
                                          refine pure_ (i := 18) (N := some 110) (v := undef) (a' := ?_) #[true, true, true, true, true, true, true, true, true, true, true, true, true, true, true, true, true, true, true, false, false, false, false, false, false, false, false, false, false, false, false, false, false] rfl rfl (any_of HT_.out (by kernel_rfl)) (fun _ _ _ h => h) (Or.inr ⟨by rfl, rfl⟩) ?_ ?_
                                          rotate_left
                                          · simp only [Act.put, List.setIfInBounds_toArray, List.set_cons_zero, List.set_cons_succ, i64_w, i32_w]
                                            rfl
                                          refine pure_ (i := 19) (N := some 111) (v := undef) (a' := ?_) #[true, true, true, true, true, true, true, true, true, true, true, true, true, true, true, true, true, true, true, true, false, false, false, false, false, false, false, false, false, false, false, false, false] rfl rfl (any_of HT_.out (by kernel_rfl)) (fun _ _ _ h => h) (Or.inr ⟨by rfl, rfl⟩) ?_ ?_
                                          rotate_left
                                          · simp only [Act.put, List.setIfInBounds_toArray, List.set_cons_zero, List.set_cons_succ, i64_w, i32_w]
                                            rfl
                                          refine pure_ (i := 20) (N := some 112) (v := undef) (a' := ?_) #[true, true, true, true, true, true, true, true, true, true, true, true, true, true, true, true, true, true, true, true, true, false, false, false, false, false, false, false, false, false, false, false, false] rfl rfl (any_of HT_.out (by kernel_rfl)) (fun _ _ _ h => h) (Or.inr ⟨by rfl, rfl⟩) ?_ ?_
                                          rotate_left
                                          · simp only [Act.put, List.setIfInBounds_toArray, List.set_cons_zero, List.set_cons_succ, i64_w, i32_w]
                                            rfl
                                          refine pure_ (i := 21) (N := some 113) (v := undef) (a' := ?_) #[true, true, true, true, true, true, true, true, true, true, true, true, true, true, true, true, true, true, true, true, true, true, false, false, false, false, false, false, false, false, false, false, false] rfl rfl (any_of HT_.out (by kernel_rfl)) (fun _ _ _ h => h) (Or.inr ⟨by rfl, rfl⟩) ?_ ?_
                                          rotate_left
                                          · simp only [Act.put, List.setIfInBounds_toArray, List.set_cons_zero, List.set_cons_succ, i64_w, i32_w]
                                            rfl
                                          refine pure_ (i := 22) (N := some 114) (v := undef) (a' := ?_) #[true, true, true, true, true, true, true, true, true, true, true, true, true, true, true, true, true, true, true, true, true, true, true, false, false, false, false, false, false, false, false, false, false] rfl rfl (any_of HT_.out (by kernel_rfl)) (fun _ _ _ h => h) (Or.inr ⟨by rfl, rfl⟩) ?_ ?_
                                          rotate_left
                                          · simp only [Act.put, List.setIfInBounds_toArray, List.set_cons_zero, List.set_cons_succ, i64_w, i32_w]
                                            rfl
                                          refine pure_ (i := 23) (N := some 115) (v := undef) (a' := ?_) #[true, true, true, true, true, true, true, true, true, true, true, true, true, true, true, true, true, true, true, true, true, true, true, true, false, false, false, false, false, false, false, false, false] rfl rfl (any_of HT_.out (by kernel_rfl)) (fun _ _ _ h => h) (Or.inr ⟨by rfl, rfl⟩) ?_ ?_
                                          rotate_left
                                          · simp only [Act.put, List.setIfInBounds_toArray, List.set_cons_zero, List.set_cons_succ, i64_w, i32_w]
                                            rfl
                                          refine pure_ (i := 24) (N := some 116) (v := undef) (a' := ?_) #[true, true, true, true, true, true, true, true, true, true, true, true, true, true, true, true, true, true, true, true, true, true, true, true, true, false, false, false, false, false, false, false, false] rfl rfl (any_of HT_.out (by kernel_rfl)) (fun _ _ _ h => h) (Or.inr ⟨by rfl, rfl⟩) ?_ ?_
                                          rotate_left
                                          · simp only [Act.put, List.setIfInBounds_toArray, List.set_cons_zero, List.set_cons_succ, i64_w, i32_w]
                                            rfl
                                          refine pure_ (i := 25) (N := some 117) (v := undef) (a' := ?_) #[true, true, true, true, true, true, true, true, true, true, true, true, true, true, true, true, true, true, true, true, true, true, true, true, true, true, false, false, false, false, false, false, false] rfl rfl (any_of HT_.out (by kernel_rfl)) (fun _ _ _ h => h) (Or.inr ⟨by rfl, rfl⟩) ?_ ?_
                                          rotate_left
                                          · simp only [Act.put, List.setIfInBounds_toArray, List.set_cons_zero, List.set_cons_succ, i64_w, i32_w]
                                            rfl
                                          refine pure_ (i := 26) (N := some 118) (v := undef) (a' := ?_) #[true, true, true, true, true, true, true, true, true, true, true, true, true, true, true, true, true, true, true, true, true, true, true, true, true, true, true, false, false, false, false, false, false] rfl rfl (any_of HT_.out (by kernel_rfl)) (fun _ _ _ h => h) (Or.inr ⟨by rfl, rfl⟩) ?_ ?_
                                          rotate_left
                                          · simp only [Act.put, List.setIfInBounds_toArray, List.set_cons_zero, List.set_cons_succ, i64_w, i32_w]
                                            rfl
                                          refine pure_ (i := 27) (N := some 119) (v := undef) (a' := ?_) #[true, true, true, true, true, true, true, true, true, true, true, true, true, true, true, true, true, true, true, true, true, true, true, true, true, true, true, true, false, false, false, false, false] rfl rfl (any_of HT_.out (by kernel_rfl)) (fun _ _ _ h => h) (Or.inr ⟨by rfl, rfl⟩) ?_ ?_
                                          rotate_left
                                          · simp only [Act.put, List.setIfInBounds_toArray, List.set_cons_zero, List.set_cons_succ, i64_w, i32_w]
                                            rfl
                                          refine pure_ (i := 28) (N := some 120) (v := undef) (a' := ?_) #[true, true, true, true, true, true, true, true, true, true, true, true, true, true, true, true, true, true, true, true, true, true, true, true, true, true, true, true, true, false, false, false, false] rfl rfl (any_of HT_.out (by kernel_rfl)) (fun _ _ _ h => h) (Or.inr ⟨by rfl, rfl⟩) ?_ ?_
                                          rotate_left
                                          · simp only [Act.put, List.setIfInBounds_toArray, List.set_cons_zero, List.set_cons_succ, i64_w, i32_w]
                                            rfl
                                          refine pure_ (i := 29) (N := some 121) (v := undef) (a' := ?_) #[true, true, true, true, true, true, true, true, true, true, true, true, true, true, true, true, true, true, true, true, true, true, true, true, true, true, true, true, true, true, false, false, false] rfl rfl (any_of HT_.out (by kernel_rfl)) (fun _ _ _ h => h) (Or.inr ⟨by rfl, rfl⟩) ?_ ?_
                                          rotate_left
                                          · simp only [Act.put, List.setIfInBounds_toArray, List.set_cons_zero, List.set_cons_succ, i64_w, i32_w]
                                            rfl
                                          refine pure_ (i := 30) (N := some 122) (v := undef) (a' := ?_) #[true, true, true, true, true, true, true, true, true, true, true, true, true, true, true, true, true, true, true, true, true, true, true, true, true, true, true, true, true, true, true, false, false] rfl rfl (any_of HT_.out (by kernel_rfl)) (fun _ _ _ h => h) (Or.inr ⟨by rfl, rfl⟩) ?_ ?_
                                          rotate_left
                                          · simp only [Act.put, List.setIfInBounds_toArray, List.set_cons_zero, List.set_cons_succ, i64_w, i32_w]
                                            rfl
                                          refine pure_ (i := 31) (N := some 123) (v := ?_) (a' := ?_) #[true, true, true, true, true, true, true, true, true, true, true, true, true, true, true, true, true, true, true, true, true, true, true, true, true, true, true, true, true, true, true, true, false] rfl rfl (any_of HT_.out (by kernel_rfl)) (fun _ _ _ h => h) (Or.inl ⟨by rfl, ?_⟩) ?_ ?_
                                          rotate_left
                                          · intro w'
                                            go_simp
                                            with_reducible rfl
                                          rotate_left
                                          · simp only [Act.put, List.setIfInBounds_toArray, List.set_cons_zero, List.set_cons_succ, i64_w, i32_w]
                                            rfl
                                          refine pure_ (i := 32) (N := some 4) (v := ?_) (a' := ?_) #[true, true, true, true, true, true, true, true, true, true, true, true, true, true, true, true, true, true, true, true, true, true, true, true, true, true, true, true, true, true, true, true, true] rfl rfl (any_of HT_.out (by kernel_rfl)) (fun _ _ _ h => h) (Or.inl ⟨by rfl, ?_⟩) ?_ ?_
                                          rotate_left
                                          · intro w'
                                            go_simp
                                            with_reducible rfl
                                          rotate_left
                                          · simp only [Act.put, List.setIfInBounds_toArray, List.set_cons_zero, List.set_cons_succ, i64_w, i32_w]
                                            rfl
                                          refine done_ (done_of HT_.out (by kernel_rfl)) ?_
                                          try go_wp2
                                          go_ret
                                          exact ⟨by first | rfl | (simp [errW_none, errW_some] <;> rfl) | (simp [*, errW_none, errW_some] <;> rfl), by repeat (first | (with_reducible first | exact HB.out | apply below_alloc | apply Go.Proofs.YtplmmblofhhikaaDoor.Ext.below_bytes | apply pw_below_drewN | apply below_drew1 | refine below_set ?_ GE197.out) | exact HB.out)⟩
                                      · rw [if_neg c59] at H
                                        exact absurd H (by simp)
                                    · rw [if_neg c58] at H
                                      exact absurd H (by simp)
                                  · rw [if_neg c57] at H
                                    have c57b0 : (x9_42 == a1) = false := beq_eq_false_iff_ne.mpr c57
                                    have c57b1 : (x9_42 != a1) = true := bne_iff_ne.mpr c57
                                    obtain rfl := Option.some.inj H
                                    try go_wp2
                                    have n0_ := Aside0.mk (Kd.R_drew HO_5.out)
                                    have n1_ := Aside0.mk (Go.Proofs.YtplmmblofhhikaaDoor.Lit.LR_drew HO_10.out)
                                    have n2_ := Aside0.mk (Kd.R_drew HO_198002.out)
                                    have n3_ := Aside0.mk (Kd.R_drew HO_198003.out)
                                    have n4_ := Aside0.mk (Kd.R_drew HO_198005.out)
                                    have n5_ := Aside0.mk (blk_drew BK197.out)
                                    have n6_ := Aside0.mk (below_drew1 HB.out)
                                    clear HO_5
                                    clear HO_10
                                    clear HO_198002
                                    clear HO_198003
                                    clear HO_198005
                                    clear BK197
                                    clear HB
                                    have HO_5 := n0_
                                    have HO_10 := n1_
                                    have HO_198002 := n2_
                                    have HO_198003 := n3_
                                    have HO_198005 := n4_
                                    have BK197 := n5_
                                    have HB := n6_
                                    clear n0_ n1_ n2_ n3_ n4_ n5_ n6_
                                    refine start_ (n := 33) (S := fun w' => True) (ds := []) #[false, false, false, false, false, false, false, false, false, false, false, false, false, false, false, false, false, false, false, false, false, false, false, false, false, false, false, false, false, false, false, false, false] (by kernel_rfl) rfl rfl trivial (fun hHeld => ?_); refine with_tabW laws_FnNumberRead.tab14 laws_FnNumberRead.bits14 (fun HT_ HW_ => ?_)
                                    generalize wc.drew = w73 at HO_5 HO_10 HO_198002 HO_198003 HO_198005 BK197 HB hHeld ⊢
                                    refine one_ (i := 0) (N := some 92) #[true, false, false, false, false, false, false, false, false, false, false, false, false, false, false, false, false, false, false, false, false, false, false, false, false, false, false, false, false, false, false, false, false] rfl rfl (one_of HT_.out (by kernel_rfl)) (by decide) (fun K hK => ?_)
                                    refine goes_ Tryd.func15 (by kernel_rfl) rfl #[] (by rfl) rfl rfl (by (try simp only [List.map_toArray, List.map_cons, List.map_nil]); first | done | rfl | (simp only [List.length_drop, List.length_take]; rfl) | (simp [Act.eval, *]; done) | (simp [Act.eval, *]; unfold wrap64; omega)) ?_
                                    with_reducible refine (laws_makeAwake.calls kj46  true _ ?side1 A55.out).mono ?_
                                    (case side1 => exact HLD.out.below (by repeat (first | (with_reducible first | exact HB.out | apply below_alloc | apply Go.Proofs.YtplmmblofhhikaaDoor.Ext.below_bytes | apply pw_below_drewN | apply below_drew1 | refine below_set ?_ GE197.out) | exact HB.out)))
                                    rintro e w74 ⟨rfl, hb⟩
                                    refine ⟨_, rfl, ?_⟩
                                    have n0_ := Aside0.mk (Kd.R_below (by (with_reducible repeat (first | apply Kd.R_alloc | apply Go.Proofs.YtplmmblofhhikaaDoor.Ext.R_bytes | apply Kd.R_drewN | apply Kd.R_drew)); exact HO_5.out) hb)
                                    have n1_ := Aside0.mk (Go.Proofs.YtplmmblofhhikaaDoor.Lit.LR_below (HO_10.out) hb)
                                    have n2_ := Aside0.mk (Kd.R_below (by (with_reducible repeat (first | apply Kd.R_alloc | apply Go.Proofs.YtplmmblofhhikaaDoor.Ext.R_bytes | apply Kd.R_drewN | apply Kd.R_drew)); exact HO_198002.out) hb)
                                    have n3_ := Aside0.mk (Kd.R_below (by (with_reducible repeat (first | apply Kd.R_alloc | apply Go.Proofs.YtplmmblofhhikaaDoor.Ext.R_bytes | apply Kd.R_drewN | apply Kd.R_drew)); exact HO_198003.out) hb)
                                    have n4_ := Aside0.mk (Kd.R_below (by (with_reducible repeat (first | apply Kd.R_alloc | apply Go.Proofs.YtplmmblofhhikaaDoor.Ext.R_bytes | apply Kd.R_drewN | apply Kd.R_drew)); exact HO_198005.out) hb)
                                    have n5_ := Aside0.mk (blk_below (g := gb197) (o := .cells #[.int .i64 t183, .int .u8 t184, .slice Ao27 t185.length co27, .slice Ao28 t188.length co28, .int .u8 t191, .slice Ao29 t192.length co29, .bool t195] 32 (0, 0)) (by (with_reducible repeat (first | refine blk_drewN ?_ _ | refine blk_drew ?_ | refine blk_alloc ?_ _)); exact BK197.out) hb)
                                    have n6_ := Aside0.mk (below_step (by repeat (first | (with_reducible first | exact HB.out | apply below_alloc | apply Go.Proofs.YtplmmblofhhikaaDoor.Ext.below_bytes | apply pw_below_drewN | apply below_drew1 | refine below_set ?_ GE197.out) | exact HB.out)) hb)
                                    clear HO_5
                                    clear HO_10
                                    clear HO_198002
                                    clear HO_198003
                                    clear HO_198005
                                    clear BK197
                                    clear HB
                                    have HO_5 := n0_
                                    have HO_10 := n1_
                                    have HO_198002 := n2_
                                    have HO_198003 := n3_
                                    have HO_198005 := n4_
                                    have BK197 := n5_
                                    have HB := n6_
                                    clear n0_ n1_ n2_ n3_ n4_ n5_ n6_
                                    (try clear hb)
                                    (try clear hb2)
                                    (try clear hk)
                                    (try clear hi)
                                    refine hK.out _ _ trivial (fun hHeld => ?_)
                                    clear hK K
                                    refine norm_ (a' := ?_) ?_ ?_
                                    rotate_left
                                    · show Act.put _ (some 92) _ = _
                                      simp only [Act.put, List.setIfInBounds_toArray, List.set_cons_zero, List.set_cons_succ, i64_w, i32_w]
                                      rfl
                                    refine pure_ (i := 1) (N := some 93) (v := ?_) (a' := ?_) #[true, true, false, false, false, false, false, false, false, false, false, false, false, false, false, false, false, false, false, false, false, false, false, false, false, false, false, false, false, false, false, false, false] rfl rfl (any_of HT_.out (by kernel_rfl)) (fun _ _ _ h => h) (Or.inl ⟨by rfl, ?_⟩) ?_ ?_
                                    rotate_left
                                    · intro w'
                                      go_simp
                                      with_reducible rfl
                                    rotate_left
                                    · simp only [Act.put, List.setIfInBounds_toArray, List.set_cons_zero, List.set_cons_succ, i64_w, i32_w]
                                      rfl
                                    refine pure_ (i := 2) (N := some 94) (v := ?_) (a' := ?_) #[true, true, true, false, false, false, false, false, false, false, false, false, false, false, false, false, false, false, false, false, false, false, false, false, false, false, false, false, false, false, false, false, false] rfl rfl (any_of HT_.out (by kernel_rfl)) (fun _ _ _ h => h) (Or.inl ⟨by rfl, ?_⟩) ?_ ?_
                                    rotate_left
                                    · intro w'
                                      go_simp
                                      with_reducible rfl
                                    rotate_left
                                    · simp only [Act.put, List.setIfInBounds_toArray, List.set_cons_zero, List.set_cons_succ, i64_w, i32_w]
                                      rfl
                                    refine pure_ (i := 3) (N := some 95) (v := ?_) (a' := ?_) #[true, true, true, true, false, false, false, false, false, false, false, false, false, false, false, false, false, false, false, false, false, false, false, false, false, false, false, false, false, false, false, false, false] rfl rfl (any_of HT_.out (by kernel_rfl)) (fun _ _ _ h => h) (Or.inl ⟨by rfl, ?_⟩) ?_ ?_
                                    rotate_left
                                    · intro w'
                                      go_simp
                                      with_reducible rfl
                                    rotate_left
                                    · simp only [Act.put, List.setIfInBounds_toArray, List.set_cons_zero, List.set_cons_succ, i64_w, i32_w]
                                      rfl
                                    refine pure_ (i := 4) (N := some 96) (v := ?_) (a' := ?_) #[true, true, true, true, true, false, false, false, false, false, false, false, false, false, false, false, false, false, false, false, false, false, false, false, false, false, false, false, false, false, false, false, false] rfl rfl (any_of HT_.out (by kernel_rfl)) (fun _ _ _ h => h) (Or.inl ⟨by rfl, ?_⟩) ?_ ?_
                                    rotate_left
                                    · intro w'
                                      go_simp
                                      with_reducible rfl
                                    rotate_left
                                    · simp only [Act.put, List.setIfInBounds_toArray, List.set_cons_zero, List.set_cons_succ, i64_w, i32_w]
                                      rfl
                                    refine pure_ (i := 5) (N := some 97) (v := ?_) (a' := ?_) #[true, true, true, true, true, true, false, false, false, false, false, false, false, false, false, false, false, false, false, false, false, false, false, false, false, false, false, false, false, false, false, false, false] rfl rfl (any_of HT_.out (by kernel_rfl)) (fun _ _ _ h => h) (Or.inl ⟨by rfl, ?_⟩) ?_ ?_
                                    rotate_left
                                    · intro w'
                                      go_simp
                                      with_reducible rfl
                                    rotate_left
                                    · simp only [Act.put, List.setIfInBounds_toArray, List.set_cons_zero, List.set_cons_succ, i64_w, i32_w]
                                      rfl
                                    refine pure_ (i := 6) (N := some 98) (v := ?_) (a' := ?_) #[true, true, true, true, true, true, true, false, false, false, false, false, false, false, false, false, false, false, false, false, false, false, false, false, false, false, false, false, false, false, false, false, false] rfl rfl (any_of HT_.out (by kernel_rfl)) (fun _ _ _ h => h) (Or.inl ⟨by rfl, ?_⟩) ?_ ?_
                                    rotate_left
                                    · intro w'
                                      go_simp
                                      with_reducible rfl
                                    rotate_left
                                    · simp only [Act.put, List.setIfInBounds_toArray, List.set_cons_zero, List.set_cons_succ, i64_w, i32_w]
                                      rfl
                                    refine pure_ (i := 7) (N := some 99) (v := undef) (a' := ?_) #[true, true, true, true, true, true, true, true, false, false, false, false, false, false, false, false, false, false, false, false, false, false, false, false, false, false, false, false, false, false, false, false, false] rfl rfl (any_of HT_.out (by kernel_rfl)) (fun _ _ _ h => h) (Or.inr ⟨by rfl, rfl⟩) ?_ ?_
                                    rotate_left
                                    · simp only [Act.put, List.setIfInBounds_toArray, List.set_cons_zero, List.set_cons_succ, i64_w, i32_w]
                                      rfl
                                    refine pure_ (i := 8) (N := some 100) (v := undef) (a' := ?_) #[true, true, true, true, true, true, true, true, true, false, false, false, false, false, false, false, false, false, false, false, false, false, false, false, false, false, false, false, false, false, false, false, false] rfl rfl (any_of HT_.out (by kernel_rfl)) (fun _ _ _ h => h) (Or.inr ⟨by rfl, rfl⟩) ?_ ?_
                                    rotate_left
                                    · simp only [Act.put, List.setIfInBounds_toArray, List.set_cons_zero, List.set_cons_succ, i64_w, i32_w]
                                      rfl
                                    refine pure_ (i := 9) (N := some 101) (v := undef) (a' := ?_) #[true, true, true, true, true, true, true, true, true, true, false, false, false, false, false, false, false, false, false, false, false, false, false, false, false, false, false, false, false, false, false, false, false] rfl rfl (any_of HT_.out (by kernel_rfl)) (fun _ _ _ h => h) (Or.inr ⟨by rfl, rfl⟩) ?_ ?_
                                    rotate_left
                                    · simp only [Act.put, List.setIfInBounds_toArray, List.set_cons_zero, List.set_cons_succ, i64_w, i32_w]
                                      rfl
                                    refine pure_ (i := 10) (N := some 102) (v := undef) (a' := ?_) #[true, true, true, true, true, true, true, true, true, true, true, false, false, false, false, false, false, false, false, false, false, false, false, false, false, false, false, false, false, false, false, false, false] rfl rfl (any_of HT_.out (by kernel_rfl)) (fun _ _ _ h => h) (Or.inr ⟨by rfl, rfl⟩) ?_ ?_
                                    rotate_left
                                    · simp only [Act.put, List.setIfInBounds_toArray, List.set_cons_zero, List.set_cons_succ, i64_w, i32_w]
                                      rfl
                                    refine pure_ (i := 11) (N := some 103) (v := undef) (a' := ?_) #[true, true, true, true, true, true, true, true, true, true, true, true, false, false, false, false, false, false, false, false, false, false, false, false, false, false, false, false, false, false, false, false, false] rfl rfl (any_of HT_.out (by kernel_rfl)) (fun _ _ _ h => h) (Or.inr ⟨by rfl, rfl⟩) ?_ ?_
                                    rotate_left
                                    · simp only [Act.put, List.setIfInBounds_toArray, List.set_cons_zero, List.set_cons_succ, i64_w, i32_w]
                                      rfl
                                    refine pure_ (i := 12) (N := some 104) (v := undef) (a' := ?_) #[true, true, true, true, true, true, true, true, true, true, true, true, true, false, false, false, false, false, false, false, false, false, false, false, false, false, false, false, false, false, false, false, false] rfl rfl (any_of HT_.out (by kernel_rfl)) (fun _ _ _ h => h) (Or.inr ⟨by rfl, rfl⟩) ?_ ?_
                                    rotate_left
                                    · simp only [Act.put, List.setIfInBounds_toArray, List.set_cons_zero, List.set_cons_succ, i64_w, i32_w]
                                      rfl
                                    refine pure_ (i := 13) (N := some 105) (v := undef) (a' := ?_) #[true, true, true, true, true, true, true, true, true, true, true, true, true, true, false, false, false, false, false, false, false, false, false, false, false, false, false, false, false, false, false, false, false] rfl rfl (any_of HT_.out (by kernel_rfl)) (fun _ _ _ h => h) (Or.inr ⟨by rfl, rfl⟩) ?_ ?_
                                    rotate_left
                                    · simp only [Act.put, List.setIfInBounds_toArray, List.set_cons_zero, List.set_cons_succ, i64_w, i32_w]
                                      rfl
                                    refine pure_ (i := 14) (N := some 106) (v := undef) (a' := ?_) #[true, true, true, true, true, true, true, true, true, true, true, true, true, true, true, false, false, false, false, false, false, false, false, false, false, false, false, false, false, false, false, false, false] rfl rfl (any_of HT_.out (by kernel_rfl)) (fun _ _ _ h => h) (Or.inr ⟨by rfl, rfl⟩) ?_ ?_
                                    rotate_left
                                    · simp only [Act.put, List.setIfInBounds_toArray, List.set_cons_zero, List.set_cons_succ, i64_w, i32_w]
                                      rfl
                                    refine pure_ (i := 15) (N := some 107) (v := ?_) (a' := ?_) #[true, true, true, true, true, true, true, true, true, true, true, true, true, true, true, true, false, false, false, false, false, false, false, false, false, false, false, false, false, false, false, false, false] rfl rfl (any_of HT_.out (by kernel_rfl)) (fun _ _ _ h => h) (Or.inl ⟨by rfl, ?_⟩) ?_ ?_
                                    rotate_left
                                    · intro w'
                                      go_simp
                                      with_reducible rfl
                                    rotate_left
                                    · simp only [Act.put, List.setIfInBounds_toArray, List.set_cons_zero, List.set_cons_succ, i64_w, i32_w]
                                      rfl
                                    refine pure_ (i := 16) (N := some 108) (v := ?_) (a' := ?_) #[true, true, true, true, true, true, true, true, true, true, true, true, true, true, true, true, true, false, false, false, false, false, false, false, false, false, false, false, false, false, false, false, false] rfl rfl (any_of HT_.out (by kernel_rfl)) (fun _ _ _ h => h) (Or.inl ⟨by rfl, ?_⟩) ?_ ?_
                                    rotate_left
                                    · intro w'
                                      go_simp
                                      with_reducible rfl
                                    rotate_left
                                    · simp only [Act.put, List.setIfInBounds_toArray, List.set_cons_zero, List.set_cons_succ, i64_w, i32_w]
                                      rfl
                                    refine pure_ (i := 17) (N := some 109) (v := undef) (a' := ?_) #[true, true, true, true, true, true, true, true, true, true, true, true, true, true, true, true, true, true, false, false, false, false, false, false, false, false, false, false, false, false, false, false, false] rfl rfl (any_of HT_.out (by kernel_rfl)) (fun _ _ _ h => h) (Or.inr ⟨by rfl, rfl⟩) ?_ ?_
                                    rotate_left
                                    · simp only [Act.put, List.setIfInBounds_toArray, List.set_cons_zero, List.set_cons_succ, i64_w, i32_w]
                                      rfl
                                    refine pure_ (i := 18) (N := some 110) (v := undef) (a' := ?_) #[true, true, true, true, true, true, true, true, true, true, true, true, true, true, true, true, true, true, true, false, false, false, false, false, false, false, false, false, false, false, false, false, false] rfl rfl (any_of HT_.out (by kernel_rfl)) (fun _ _ _ h => h) (Or.inr ⟨by rfl, rfl⟩) ?_ ?_
                                    rotate_left
                                    · simp only [Act.put, List.setIfInBounds_toArray, List.set_cons_zero, List.set_cons_succ, i64_w, i32_w]
                                      rfl
                                    refine pure_ (i := 19) (N := some 111) (v := undef) (a' := ?_) #[true, true, true, true, true, true, true, true, true, true, true, true, true, true, true, true, true, true, true, true, false, false, false, false, false, false, false, false, false, false, false, false, false] rfl rfl (any_of HT_.out (by kernel_rfl)) (fun _ _ _ h => h) (Or.inr ⟨by rfl, rfl⟩) ?_ ?_
                                    rotate_left
                                    · simp only [Act.put, List.setIfInBounds_toArray, List.set_cons_zero, List.set_cons_succ, i64_w, i32_w]
                                      rfl
                                    refine pure_ (i := 20) (N := some 112) (v := undef) (a' := ?_) #[true, true, true, true, true, true, true, true, true, true, true, true, true, true, true, true, true, true, true, true, true, false, false, false, false, false, false, false, false, false, false, false, false] rfl rfl (any_of HT_.out (by kernel_rfl)) (fun _ _ _ h => h) (Or.inr ⟨by rfl, rfl⟩) ?_ ?_
                                    rotate_left
                                    · simp only [Act.put, List.setIfInBounds_toArray, List.set_cons_zero, List.set_cons_succ, i64_w, i32_w]
                                      rfl
                                    refine pure_ (i := 21) (N := some 113) (v := undef) (a' := ?_) #[true, true, true, true, true, true, true, true, true, true, true, true, true, true, true, true, true, true, true, true, true, true, false, false, false, false, false, false, false, false, false, false, false] rfl rfl (any_of HT_.out (by kernel_rfl)) (fun _ _ _ h => h) (Or.inr ⟨by rfl, rfl⟩) ?_ ?_
                                    rotate_left
                                    · simp only [Act.put, List.setIfInBounds_toArray, List.set_cons_zero, List.set_cons_succ, i64_w, i32_w]
                                      rfl
                                    refine pure_ (i := 22) (N := some 114) (v := undef) (a' := ?_) #[true, true, true, true, true, true, true, true, true, true, true, true, true, true, true, true, true, true, true, true, true, true, true, false, false, false, false, false, false, false, false, false, false] rfl rfl (any_of HT_.out (by kernel_rfl)) (fun _ _ _ h => h) (Or.inr ⟨by rfl, rfl⟩) ?_ ?_
                                    rotate_left
                                    · simp only [Act.put, List.setIfInBounds_toArray, List.set_cons_zero, List.set_cons_succ, i64_w, i32_w]
                                      rfl
                                    refine pure_ (i := 23) (N := some 115) (v := undef) (a' := ?_) #[true, true, true, true, true, true, true, true, true, true, true, true, true, true, true, true, true, true, true, true, true, true, true, true, false, false, false, false, false, false, false, false, false] rfl rfl (any_of HT_.out (by kernel_rfl)) (fun _ _ _ h => h) (Or.inr ⟨by rfl, rfl⟩) ?_ ?_
                                    rotate_left
                                    · simp only [Act.put, List.setIfInBounds_toArray, List.set_cons_zero, List.set_cons_succ, i64_w, i32_w]
                                      rfl
                                    refine pure_ (i := 24) (N := some 116) (v := undef) (a' := ?_) #[true, true, true, true, true, true, true, true, true, true, true, true, true, true, true, true, true, true, true, true, true, true, true, true, true, false, false, false, false, false, false, false, false] rfl rfl (any_of HT_.out (by kernel_rfl)) (fun _ _ _ h => h) (Or.inr ⟨by rfl, rfl⟩) ?_ ?_
                                    rotate_left
                                    · simp only [Act.put, List.setIfInBounds_toArray, List.set_cons_zero, List.set_cons_succ, i64_w, i32_w]
                                      rfl
                                    refine pure_ (i := 25) (N := some 117) (v := undef) (a' := ?_) #[true, true, true, true, true, true, true, true, true, true, true, true, true, true, true, true, true, true, true, true, true, true, true, true, true, true, false, false, false, false, false, false, false] rfl rfl (any_of HT_.out (by kernel_rfl)) (fun _ _ _ h => h) (Or.inr ⟨by rfl, rfl⟩) ?_ ?_
                                    rotate_left
                                    · simp only [Act.put, List.setIfInBounds_toArray, List.set_cons_zero, List.set_cons_succ, i64_w, i32_w]
                                      rfl
                                    refine pure_ (i := 26) (N := some 118) (v := undef) (a' := ?_) #[true, true, true, true, true, true, true, true, true, true, true, true, true, true, true, true, true, true, true, true, true, true, true, true, true, true, true, false, false, false, false, false, false] rfl rfl (any_of HT_.out (by kernel_rfl)) (fun _ _ _ h => h) (Or.inr ⟨by rfl, rfl⟩) ?_ ?_
                                    rotate_left
                                    · simp only [Act.put, List.setIfInBounds_toArray, List.set_cons_zero, List.set_cons_succ, i64_w, i32_w]
                                      rfl
                                    refine pure_ (i := 27) (N := some 119) (v := undef) (a' := ?_) #[true, true, true, true, true, true, true, true, true, true, true, true, true, true, true, true, true, true, true, true, true, true, true, true, true, true, true, true, false, false, false, false, false] rfl rfl (any_of HT_.out (by kernel_rfl)) (fun _ _ _ h => h) (Or.inr ⟨by rfl, rfl⟩) ?_ ?_
                                    rotate_left
                                    · simp only [Act.put, List.setIfInBounds_toArray, List.set_cons_zero, List.set_cons_succ, i64_w, i32_w]
                                      rfl
                                    refine pure_ (i := 28) (N := some 120) (v := undef) (a' := ?_) #[true, true, true, true, true, true, true, true, true, true, true, true, true, true, true, true, true, true, true, true, true, true, true, true, true, true, true, true, true, false, false, false, false] rfl rfl (any_of HT_.out (by kernel_rfl)) (fun _ _ _ h => h) (Or.inr ⟨by rfl, rfl⟩) ?_ ?_
                                    rotate_left
                                    · simp only [Act.put, List.setIfInBounds_toArray, List.set_cons_zero, List.set_cons_succ, i64_w, i32_w]
                                      rfl
                                    refine pure_ (i := 29) (N := some 121) (v := undef) (a' := ?_) #[true, true, true, true, true, true, true, true, true, true, true, true, true, true, true, true, true, true, true, true, true, true, true, true, true, true, true, true, true, true, false, false, false] rfl rfl (any_of HT_.out (by kernel_rfl)) (fun _ _ _ h => h) (Or.inr ⟨by rfl, rfl⟩) ?_ ?_
                                    rotate_left
                                    · simp only [Act.put, List.setIfInBounds_toArray, List.set_cons_zero, List.set_cons_succ, i64_w, i32_w]
                                      rfl
                                    refine pure_ (i := 30) (N := some 122) (v := undef) (a' := ?_) #[true, true, true, true, true, true, true, true, true, true, true, true, true, true, true, true, true, true, true, true, true, true, true, true, true, true, true, true, true, true, true, false, false] rfl rfl (any_of HT_.out (by kernel_rfl)) (fun _ _ _ h => h) (Or.inr ⟨by rfl, rfl⟩) ?_ ?_
                                    rotate_left
                                    · simp only [Act.put, List.setIfInBounds_toArray, List.set_cons_zero, List.set_cons_succ, i64_w, i32_w]
                                      rfl
                                    refine pure_ (i := 31) (N := some 123) (v := ?_) (a' := ?_) #[true, true, true, true, true, true, true, true, true, true, true, true, true, true, true, true, true, true, true, true, true, true, true, true, true, true, true, true, true, true, true, true, false] rfl rfl (any_of HT_.out (by kernel_rfl)) (fun _ _ _ h => h) (Or.inl ⟨by rfl, ?_⟩) ?_ ?_
                                    rotate_left
                                    · intro w'
                                      go_simp
                                      with_reducible rfl
                                    rotate_left
                                    · simp only [Act.put, List.setIfInBounds_toArray, List.set_cons_zero, List.set_cons_succ, i64_w, i32_w]
                                      rfl
                                    refine pure_ (i := 32) (N := some 4) (v := ?_) (a' := ?_) #[true, true, true, true, true, true, true, true, true, true, true, true, true, true, true, true, true, true, true, true, true, true, true, true, true, true, true, true, true, true, true, true, true] rfl rfl (any_of HT_.out (by kernel_rfl)) (fun _ _ _ h => h) (Or.inl ⟨by rfl, ?_⟩) ?_ ?_
                                    rotate_left
                                    · intro w'
                                      go_simp
                                      with_reducible rfl
                                    rotate_left
                                    · simp only [Act.put, List.setIfInBounds_toArray, List.set_cons_zero, List.set_cons_succ, i64_w, i32_w]
                                      rfl
                                    refine done_ (done_of HT_.out (by kernel_rfl)) ?_
                                    try go_wp2
                                    go_ret
                                    exact ⟨by first | rfl | (simp [errW_none, errW_some] <;> rfl) | (simp [*, errW_none, errW_some] <;> rfl), by repeat (first | (with_reducible first | exact HB.out | apply below_alloc | apply Go.Proofs.YtplmmblofhhikaaDoor.Ext.below_bytes | apply pw_below_drewN | apply below_drew1 | refine below_set ?_ GE197.out) | exact HB.out)⟩
                                · replace c56 := Bool.eq_false_iff.mpr c56
                                  subst c56
                                  have H1 : (some false) = some r := by rw [if_neg (show ¬ (false = true) by decide)] at H; exact H
                                  clear H
                                  have H := H1
                                  clear H1
                                  obtain rfl := Option.some.inj H
                                  try go_wp2
                                  have n0_ := Aside0.mk (Kd.R_drew HO_5.out)
                                  have n1_ := Aside0.mk (Go.Proofs.YtplmmblofhhikaaDoor.Lit.LR_drew HO_10.out)
                                  have n2_ := Aside0.mk (Kd.R_drew HO_198002.out)
                                  have n3_ := Aside0.mk (Kd.R_drew HO_198003.out)
                                  have n4_ := Aside0.mk (Kd.R_drew HO_198005.out)
                                  have n5_ := Aside0.mk (blk_drew BK197.out)
                                  have n6_ := Aside0.mk (below_drew1 HB.out)
                                  clear HO_5
                                  clear HO_10
                                  clear HO_198002
                                  clear HO_198003
                                  clear HO_198005
                                  clear BK197
                                  clear HB
                                  have HO_5 := n0_
                                  have HO_10 := n1_
                                  have HO_198002 := n2_
                                  have HO_198003 := n3_
                                  have HO_198005 := n4_
                                  have BK197 := n5_
                                  have HB := n6_
                                  clear n0_ n1_ n2_ n3_ n4_ n5_ n6_
                                  refine start_ (n := 33) (S := fun w' => True) (ds := []) #[false, false, false, false, false, false, false, false, false, false, false, false, false, false, false, false, false, false, false, false, false, false, false, false, false, false, false, false, false, false, false, false, false] (by kernel_rfl) rfl rfl trivial (fun hHeld => ?_); refine with_tabW laws_FnNumberRead.tab14 laws_FnNumberRead.bits14 (fun HT_ HW_ => ?_)
                                  generalize wc.drew = w75 at HO_5 HO_10 HO_198002 HO_198003 HO_198005 BK197 HB hHeld ⊢
                                  refine one_ (i := 0) (N := some 92) #[true, false, false, false, false, false, false, false, false, false, false, false, false, false, false, false, false, false, false, false, false, false, false, false, false, false, false, false, false, false, false, false, false] rfl rfl (one_of HT_.out (by kernel_rfl)) (by decide) (fun K hK => ?_)
                                  refine goes_ Tryd.func15 (by kernel_rfl) rfl #[] (by rfl) rfl rfl (by (try simp only [List.map_toArray, List.map_cons, List.map_nil]); first | done | rfl | (simp only [List.length_drop, List.length_take]; rfl) | (simp [Act.eval, *]; done) | (simp [Act.eval, *]; unfold wrap64; omega)) ?_
                                  with_reducible refine (laws_makeAwake.calls kj46  false _ ?side1 A55.out).mono ?_
                                  (case side1 => exact HLD.out.below (by repeat (first | (with_reducible first | exact HB.out | apply below_alloc | apply Go.Proofs.YtplmmblofhhikaaDoor.Ext.below_bytes | apply pw_below_drewN | apply below_drew1 | refine below_set ?_ GE197.out) | exact HB.out)))
                                  rintro e w76 ⟨rfl, hb⟩
                                  refine ⟨_, rfl, ?_⟩
                                  have n0_ := Aside0.mk (Kd.R_below (by (with_reducible repeat (first | apply Kd.R_alloc | apply Go.Proofs.YtplmmblofhhikaaDoor.Ext.R_bytes | apply Kd.R_drewN | apply Kd.R_drew)); exact HO_5.out) hb)
                                  have n1_ := Aside0.mk (Go.Proofs.YtplmmblofhhikaaDoor.Lit.LR_below (HO_10.out) hb)
                                  have n2_ := Aside0.mk (Kd.R_below (by (with_reducible repeat (first | apply Kd.R_alloc | apply Go.Proofs.YtplmmblofhhikaaDoor.Ext.R_bytes | apply Kd.R_drewN | apply Kd.R_drew)); exact HO_198002.out) hb)
                                  have n3_ := Aside0.mk (Kd.R_below (by (with_reducible repeat (first | apply Kd.R_alloc | apply Go.Proofs.YtplmmblofhhikaaDoor.Ext.R_bytes | apply Kd.R_drewN | apply Kd.R_drew)); exact HO_198003.out) hb)
                                  have n4_ := Aside0.mk (Kd.R_below (by (with_reducible repeat (first | apply Kd.R_alloc | apply Go.Proofs.YtplmmblofhhikaaDoor.Ext.R_bytes | apply Kd.R_drewN | apply Kd.R_drew)); exact HO_198005.out) hb)
                                  have n5_ := Aside0.mk (blk_below (g := gb197) (o := .cells #[.int .i64 t183, .int .u8 t184, .slice Ao27 t185.length co27, .slice Ao28 t188.length co28, .int .u8 t191, .slice Ao29 t192.length co29, .bool t195] 32 (0, 0)) (by (with_reducible repeat (first | refine blk_drewN ?_ _ | refine blk_drew ?_ | refine blk_alloc ?_ _)); exact BK197.out) hb)
                                  have n6_ := Aside0.mk (below_step (by repeat (first | (with_reducible first | exact HB.out | apply below_alloc | apply Go.Proofs.YtplmmblofhhikaaDoor.Ext.below_bytes | apply pw_below_drewN | apply below_drew1 | refine below_set ?_ GE197.out) | exact HB.out)) hb)
                                  clear HO_5
                                  clear HO_10
                                  clear HO_198002
                                  clear HO_198003
                                  clear HO_198005
                                  clear BK197
                                  clear HB
                                  have HO_5 := n0_
                                  have HO_10 := n1_
                                  have HO_198002 := n2_
                                  have HO_198003 := n3_
                                  have HO_198005 := n4_
                                  have BK197 := n5_
                                  have HB := n6_
                                  clear n0_ n1_ n2_ n3_ n4_ n5_ n6_
                                  (try clear hb)
                                  (try clear hb2)
                                  (try clear hk)
                                  (try clear hi)
                                  refine hK.out _ _ trivial (fun hHeld => ?_)
                                  clear hK K
                                  refine norm_ (a' := ?_) ?_ ?_
                                  rotate_left
                                  · show Act.put _ (some 92) _ = _
                                    simp only [Act.put, List.setIfInBounds_toArray, List.set_cons_zero, List.set_cons_succ, i64_w, i32_w]
                                    rfl
                                  refine pure_ (i := 1) (N := some 93) (v := ?_) (a' := ?_) #[true, true, false, false, false, false, false, false, false, false, false, false, false, false, false, false, false, false, false, false, false, false, false, false, false, false, false, false, false, false, false, false, false] rfl rfl (any_of HT_.out (by kernel_rfl)) (fun _ _ _ h => h) (Or.inl ⟨by rfl, ?_⟩) ?_ ?_
                                  rotate_left
                                  · intro w'
                                    go_simp
                                    with_reducible rfl
                                  rotate_left
                                  · simp only [Act.put, List.setIfInBounds_toArray, List.set_cons_zero, List.set_cons_succ, i64_w, i32_w]
                                    rfl
                                  refine pure_ (i := 2) (N := some 94) (v := undef) (a' := ?_) #[true, true, true, false, false, false, false, false, false, false, false, false, false, false, false, false, false, false, false, false, false, false, false, false, false, false, false, false, false, false, false, false, false] rfl rfl (any_of HT_.out (by kernel_rfl)) (fun _ _ _ h => h) (Or.inr ⟨by rfl, rfl⟩) ?_ ?_
                                  rotate_left
                                  · simp only [Act.put, List.setIfInBounds_toArray, List.set_cons_zero, List.set_cons_succ, i64_w, i32_w]
                                    rfl
                                  refine pure_ (i := 3) (N := some 95) (v := undef) (a' := ?_) #[true, true, true, true, false, false, false, false, false, false, false, false, false, false, false, false, false, false, false, false, false, false, false, false, false, false, false, false, false, false, false, false, false] rfl rfl (any_of HT_.out (by kernel_rfl)) (fun _ _ _ h => h) (Or.inr ⟨by rfl, rfl⟩) ?_ ?_
                                  rotate_left
                                  · simp only [Act.put, List.setIfInBounds_toArray, List.set_cons_zero, List.set_cons_succ, i64_w, i32_w]
                                    rfl
                                  refine pure_ (i := 4) (N := some 96) (v := undef) (a' := ?_) #[true, true, true, true, true, false, false, false, false, false, false, false, false, false, false, false, false, false, false, false, false, false, false, false, false, false, false, false, false, false, false, false, false] rfl rfl (any_of HT_.out (by kernel_rfl)) (fun _ _ _ h => h) (Or.inr ⟨by rfl, rfl⟩) ?_ ?_
                                  rotate_left
                                  · simp only [Act.put, List.setIfInBounds_toArray, List.set_cons_zero, List.set_cons_succ, i64_w, i32_w]
                                    rfl
                                  refine pure_ (i := 5) (N := some 97) (v := ?_) (a' := ?_) #[true, true, true, true, true, true, false, false, false, false, false, false, false, false, false, false, false, false, false, false, false, false, false, false, false, false, false, false, false, false, false, false, false] rfl rfl (any_of HT_.out (by kernel_rfl)) (fun _ _ _ h => h) (Or.inl ⟨by rfl, ?_⟩) ?_ ?_
                                  rotate_left
                                  · intro w'
                                    go_simp
                                    with_reducible rfl
                                  rotate_left
                                  · simp only [Act.put, List.setIfInBounds_toArray, List.set_cons_zero, List.set_cons_succ, i64_w, i32_w]
                                    rfl
                                  refine pure_ (i := 6) (N := some 98) (v := ?_) (a' := ?_) #[true, true, true, true, true, true, true, false, false, false, false, false, false, false, false, false, false, false, false, false, false, false, false, false, false, false, false, false, false, false, false, false, false] rfl rfl (any_of HT_.out (by kernel_rfl)) (fun _ _ _ h => h) (Or.inl ⟨by rfl, ?_⟩) ?_ ?_
                                  rotate_left
                                  · intro w'
                                    go_simp
                                    with_reducible rfl
                                  rotate_left
                                  · simp only [Act.put, List.setIfInBounds_toArray, List.set_cons_zero, List.set_cons_succ, i64_w, i32_w]
                                    rfl
                                  refine pure_ (i := 7) (N := some 99) (v := undef) (a' := ?_) #[true, true, true, true, true, true, true, true, false, false, false, false, false, false, false, false, false, false, false, false, false, false, false, false, false, false, false, false, false, false, false, false, false] rfl rfl (any_of HT_.out (by kernel_rfl)) (fun _ _ _ h => h) (Or.inr ⟨by rfl, rfl⟩) ?_ ?_
                                  rotate_left
                                  · simp only [Act.put, List.setIfInBounds_toArray, List.set_cons_zero, List.set_cons_succ, i64_w, i32_w]
                                    rfl
                                  refine pure_ (i := 8) (N := some 100) (v := undef) (a' := ?_) #[true, true, true, true, true, true, true, true, true, false, false, false, false, false, false, false, false, false, false, false, false, false, false, false, false, false, false, false, false, false, false, false, false] rfl rfl (any_of HT_.out (by kernel_rfl)) (fun _ _ _ h => h) (Or.inr ⟨by rfl, rfl⟩) ?_ ?_
                                  rotate_left
                                  · simp only [Act.put, List.setIfInBounds_toArray, List.set_cons_zero, List.set_cons_succ, i64_w, i32_w]
                                    rfl
                                  refine pure_ (i := 9) (N := some 101) (v := undef) (a' := ?_) #[true, true, true, true, true, true, true, true, true, true, false, false, false, false, false, false, false, false, false, false, false, false, false, false, false, false, false, false, false, false, false, false, false] rfl rfl (any_of HT_.out (by kernel_rfl)) (fun _ _ _ h => h) (Or.inr ⟨by rfl, rfl⟩) ?_ ?_
                                  rotate_left
                                  · simp only [Act.put, List.setIfInBounds_toArray, List.set_cons_zero, List.set_cons_succ, i64_w, i32_w]
                                    rfl
                                  refine pure_ (i := 10) (N := some 102) (v := undef) (a' := ?_) #[true, true, true, true, true, true, true, true, true, true, true, false, false, false, false, false, false, false, false, false, false, false, false, false, false, false, false, false, false, false, false, false, false] rfl rfl (any_of HT_.out (by kernel_rfl)) (fun _ _ _ h => h) (Or.inr ⟨by rfl, rfl⟩) ?_ ?_
                                  rotate_left
                                  · simp only [Act.put, List.setIfInBounds_toArray, List.set_cons_zero, List.set_cons_succ, i64_w, i32_w]
                                    rfl
                                  refine pure_ (i := 11) (N := some 103) (v := undef) (a' := ?_) #[true, true, true, true, true, true, true, true, true, true, true, true, false, false, false, false, false, false, false, false, false, false, false, false, false, false, false, false, false, false, false, false, false] rfl rfl (any_of HT_.out (by kernel_rfl)) (fun _ _ _ h => h) (Or.inr ⟨by rfl, rfl⟩) ?_ ?_
                                  rotate_left
                                  · simp only [Act.put, List.setIfInBounds_toArray, List.set_cons_zero, List.set_cons_succ, i64_w, i32_w]
                                    rfl
                                  refine pure_ (i := 12) (N := some 104) (v := undef) (a' := ?_) #[true, true, true, true, true, true, true, true, true, true, true, true, true, false, false, false, false, false, false, false, false, false, false, false, false, false, false, false, false, false, false, false, false] rfl rfl (any_of HT_.out (by kernel_rfl)) (fun _ _ _ h => h) (Or.inr ⟨by rfl, rfl⟩) ?_ ?_
                                  rotate_left
                                  · simp only [Act.put, List.setIfInBounds_toArray, List.set_cons_zero, List.set_cons_succ, i64_w, i32_w]
                                    rfl
                                  refine pure_ (i := 13) (N := some 105) (v := undef) (a' := ?_) #[true, true, true, true, true, true, true, true, true, true, true, true, true, true, false, false, false, false, false, false, false, false, false, false, false, false, false, false, false, false, false, false, false] rfl rfl (any_of HT_.out (by kernel_rfl)) (fun _ _ _ h => h) (Or.inr ⟨by rfl, rfl⟩) ?_ ?_
                                  rotate_left
                                  · simp only [Act.put, List.setIfInBounds_toArray, List.set_cons_zero, List.set_cons_succ, i64_w, i32_w]
                                    rfl
                                  refine pure_ (i := 14) (N := some 106) (v := undef) (a' := ?_) #[true, true, true, true, true, true, true, true, true, true, true, true, true, true, true, false, false, false, false, false, false, false, false, false, false, false, false, false, false, false, false, false, false] rfl rfl (any_of HT_.out (by kernel_rfl)) (fun _ _ _ h => h) (Or.inr ⟨by rfl, rfl⟩) ?_ ?_
                                  rotate_left
                                  · simp only [Act.put, List.setIfInBounds_toArray, List.set_cons_zero, List.set_cons_succ, i64_w, i32_w]
                                    rfl
                                  refine pure_ (i := 15) (N := some 107) (v := ?_) (a' := ?_) #[true, true, true, true, true, true, true, true, true, true, true, true, true, true, true, true, false, false, false, false, false, false, false, false, false, false, false, false, false, false, false, false, false] rfl rfl (any_of HT_.out (by kernel_rfl)) (fun _ _ _ h => h) (Or.inl ⟨by rfl, ?_⟩) ?_ ?_
                                  rotate_left
                                  · intro w'
                                    go_simp
                                    with_reducible rfl
                                  rotate_left
                                  · simp only [Act.put, List.setIfInBounds_toArray, List.set_cons_zero, List.set_cons_succ, i64_w, i32_w]
                                    rfl
                                  refine pure_ (i := 16) (N := some 108) (v := ?_) (a' := ?_) #[true, true, true, true, true, true, true, true, true, true, true, true, true, true, true, true, true, false, false, false, false, false, false, false, false, false, false, false, false, false, false, false, false] rfl rfl (any_of HT_.out (by kernel_rfl)) (fun _ _ _ h => h) (Or.inl ⟨by rfl, ?_⟩) ?_ ?_
                                  rotate_left
                                  · intro w'
                                    go_simp
                                    with_reducible rfl
                                  rotate_left
                                  · simp only [Act.put, List.setIfInBounds_toArray, List.set_cons_zero, List.set_cons_succ, i64_w, i32_w]
                                    rfl
                                  refine pure_ (i := 17) (N := some 109) (v := undef) (a' := ?_) #[true, true, true, true, true, true, true, true, true, true, true, true, true, true, true, true, true, true, false, false, false, false, false, false, false, false, false, false, false, false, false, false, false] rfl rfl (any_of HT_.out (by kernel_rfl)) (fun _ _ _ h => h) (Or.inr ⟨by rfl, rfl⟩) ?_ ?_
                                  rotate_left
                                  · simp only [Act.put, List.setIfInBounds_toArray, List.set_cons_zero, List.set_cons_succ, i64_w, i32_w]
                                    rfl
                                  refine pure_ (i := 18) (N := some 110) (v := undef) (a' := ?_) #[true, true, true, true, true, true, true, true, true, true, true, true, true, true, true, true, true, true, true, false, false, false, false, false, false, false, false, false, false, false, false, false, false] rfl rfl (any_of HT_.out (by kernel_rfl)) (fun _ _ _ h => h) (Or.inr ⟨by rfl, rfl⟩) ?_ ?_
                                  rotate_left
                                  · simp only [Act.put, List.setIfInBounds_toArray, List.set_cons_zero, List.set_cons_succ, i64_w, i32_w]
                                    rfl
                                  refine pure_ (i := 19) (N := some 111) (v := undef) (a' := ?_) #[true, true, true, true, true, true, true, true, true, true, true, true, true, true, true, true, true, true, true, true, false, false, false, false, false, false, false, false, false, false, false, false, false] rfl rfl (any_of HT_.out (by kernel_rfl)) (fun _ _ _ h => h) (Or.inr ⟨by rfl, rfl⟩) ?_ ?_
                                  rotate_left
                                  · simp only [Act.put, List.setIfInBounds_toArray, List.set_cons_zero, List.set_cons_succ, i64_w, i32_w]
                                    rfl
                                  refine pure_ (i := 20) (N := some 112) (v := undef) (a' := ?_) #[true, true, true, true, true, true, true, true, true, true, true, true, true, true, true, true, true, true, true, true, true, false, false, false, false, false, false, false, false, false, false, false, false] rfl rfl (any_of HT_.out (by kernel_rfl)) (fun _ _ _ h => h) (Or.inr ⟨by rfl, rfl⟩) ?_ ?_
                                  rotate_left
                                  · simp only [Act.put, List.setIfInBounds_toArray, List.set_cons_zero, List.set_cons_succ, i64_w, i32_w]
                                    rfl
                                  refine pure_ (i := 21) (N := some 113) (v := undef) (a' := ?_) #[true, true, true, true, true, true, true, true, true, true, true, true, true, true, true, true, true, true, true, true, true, true, false, false, false, false, false, false, false, false, false, false, false] rfl rfl (any_of HT_.out (by kernel_rfl)) (fun _ _ _ h => h) (Or.inr ⟨by rfl, rfl⟩) ?_ ?_
                                  rotate_left
                                  · simp only [Act.put, List.setIfInBounds_toArray, List.set_cons_zero, List.set_cons_succ, i64_w, i32_w]
                                    rfl
                                  refine pure_ (i := 22) (N := some 114) (v := undef) (a' := ?_) #[true, true, true, true, true, true, true, true, true, true, true, true, true, true, true, true, true, true, true, true, true, true, true, false, false, false, false, false, false, false, false, false, false] rfl rfl (any_of HT_.out (by kernel_rfl)) (fun _ _ _ h => h) (Or.inr ⟨by rfl, rfl⟩) ?_ ?_
                                  rotate_left
                                  · simp only [Act.put, List.setIfInBounds_toArray, List.set_cons_zero, List.set_cons_succ, i64_w, i32_w]
                                    rfl
                                  refine pure_ (i := 23) (N := some 115) (v := undef) (a' := ?_) #[true, true, true, true, true, true, true, true, true, true, true, true, true, true, true, true, true, true, true, true, true, true, true, true, false, false, false, false, false, false, false, false, false] rfl rfl (any_of HT_.out (by kernel_rfl)) (fun _ _ _ h => h) (Or.inr ⟨by rfl, rfl⟩) ?_ ?_
                                  rotate_left
                                  · simp only [Act.put, List.setIfInBounds_toArray, List.set_cons_zero, List.set_cons_succ, i64_w, i32_w]
                                    rfl
                                  refine pure_ (i := 24) (N := some 116) (v := undef) (a' := ?_) #[true, true, true, true, true, true, true, true, true, true, true, true, true, true, true, true, true, true, true, true, true, true, true, true, true, false, false, false, false, false, false, false, false] rfl rfl (any_of HT_.out (by kernel_rfl)) (fun _ _ _ h => h) (Or.inr ⟨by rfl, rfl⟩) ?_ ?_
                                  rotate_left
                                  · simp only [Act.put, List.setIfInBounds_toArray, List.set_cons_zero, List.set_cons_succ, i64_w, i32_w]
                                    rfl
                                  refine pure_ (i := 25) (N := some 117) (v := undef) (a' := ?_) #[true, true, true, true, true, true, true, true, true, true, true, true, true, true, true, true, true, true, true, true, true, true, true, true, true, true, false, false, false, false, false, false, false] rfl rfl (any_of HT_.out (by kernel_rfl)) (fun _ _ _ h => h) (Or.inr ⟨by rfl, rfl⟩) ?_ ?_
                                  rotate_left
                                  · simp only [Act.put, List.setIfInBounds_toArray, List.set_cons_zero, List.set_cons_succ, i64_w, i32_w]
                                    rfl
                                  refine pure_ (i := 26) (N := some 118) (v := undef) (a' := ?_) #[true, true, true, true, true, true, true, true, true, true, true, true, true, true, true, true, true, true, true, true, true, true, true, true, true, true, true, false, false, false, false, false, false] rfl rfl (any_of HT_.out (by kernel_rfl)) (fun _ _ _ h => h) (Or.inr ⟨by rfl, rfl⟩) ?_ ?_
                                  rotate_left
                                  · simp only [Act.put, List.setIfInBounds_toArray, List.set_cons_zero, List.set_cons_succ, i64_w, i32_w]
                                    rfl
                                  refine pure_ (i := 27) (N := some 119) (v := undef) (a' := ?_) #[true, true, true, true, true, true, true, true, true, true, true, true, true, true, true, true, true, true, true, true, true, true, true, true, true, true, true, true, false, false, false, false, false] rfl rfl (any_of HT_.out (by kernel_rfl)) (fun _ _ _ h => h) (Or.inr ⟨by rfl, rfl⟩) ?_ ?_
                                  rotate_left
                                  · simp only [Act.put, List.setIfInBounds_toArray, List.set_cons_zero, List.set_cons_succ, i64_w, i32_w]
                                    rfl
                                  refine pure_ (i := 28) (N := some 120) (v := undef) (a' := ?_) #[true, true, true, true, true, true, true, true, true, true, true, true, true, true, true, true, true, true, true, true, true, true, true, true, true, true, true, true, true, false, false, false, false] rfl rfl (any_of HT_.out (by kernel_rfl)) (fun _ _ _ h => h) (Or.inr ⟨by rfl, rfl⟩) ?_ ?_
                                  rotate_left
                                  · simp only [Act.put, List.setIfInBounds_toArray, List.set_cons_zero, List.set_cons_succ, i64_w, i32_w]
                                    rfl
                                  refine pure_ (i := 29) (N := some 121) (v := undef) (a' := ?_) #[true, true, true, true, true, true, true, true, true, true, true, true, true, true, true, true, true, true, true, true, true, true, true, true, true, true, true, true, true, true, false, false, false] rfl rfl (any_of HT_.out (by kernel_rfl)) (fun _ _ _ h => h) (Or.inr ⟨by rfl, rfl⟩) ?_ ?_
                                  rotate_left
                                  · simp only [Act.put, List.setIfInBounds_toArray, List.set_cons_zero, List.set_cons_succ, i64_w, i32_w]
                                    rfl
                                  refine pure_ (i := 30) (N := some 122) (v := undef) (a' := ?_) #[true, true, true, true, true, true, true, true, true, true, true, true, true, true, true, true, true, true, true, true, true, true, true, true, true, true, true, true, true, true, true, false, false] rfl rfl (any_of HT_.out (by kernel_rfl)) (fun _ _ _ h => h) (Or.inr ⟨by rfl, rfl⟩) ?_ ?_
                                  rotate_left
                                  · simp only [Act.put, List.setIfInBounds_toArray, List.set_cons_zero, List.set_cons_succ, i64_w, i32_w]
                                    rfl
                                  refine pure_ (i := 31) (N := some 123) (v := ?_) (a' := ?_) #[true, true, true, true, true, true, true, true, true, true, true, true, true, true, true, true, true, true, true, true, true, true, true, true, true, true, true, true, true, true, true, true, false] rfl rfl (any_of HT_.out (by kernel_rfl)) (fun _ _ _ h => h) (Or.inl ⟨by rfl, ?_⟩) ?_ ?_
                                  rotate_left
                                  · intro w'
                                    go_simp
                                    with_reducible rfl
                                  rotate_left
                                  · simp only [Act.put, List.setIfInBounds_toArray, List.set_cons_zero, List.set_cons_succ, i64_w, i32_w]
                                    rfl
                                  refine pure_ (i := 32) (N := some 4) (v := ?_) (a' := ?_) #[true, true, true, true, true, true, true, true, true, true, true, true, true, true, true, true, true, true, true, true, true, true, true, true, true, true, true, true, true, true, true, true, true] rfl rfl (any_of HT_.out (by kernel_rfl)) (fun _ _ _ h => h) (Or.inl ⟨by rfl, ?_⟩) ?_ ?_
                                  rotate_left
                                  · intro w'
                                    go_simp
                                    with_reducible rfl
                                  rotate_left
                                  · simp only [Act.put, List.setIfInBounds_toArray, List.set_cons_zero, List.set_cons_succ, i64_w, i32_w]
                                    rfl
                                  refine done_ (done_of HT_.out (by kernel_rfl)) ?_
                                  try go_wp2
                                  go_ret
                                  exact ⟨by first | rfl | (simp [errW_none, errW_some] <;> rfl) | (simp [*, errW_none, errW_some] <;> rfl), by repeat (first | (with_reducible first | exact HB.out | apply below_alloc | apply Go.Proofs.YtplmmblofhhikaaDoor.Ext.below_bytes | apply pw_below_drewN | apply below_drew1 | refine below_set ?_ GE197.out) | exact HB.out)⟩
                  · rw [if_neg c36] at H
                    exact absurd H (by simp)
                · rw [if_neg c35] at H
                  exact absurd H (by simp)
        · rw [if_neg c20] at H
          exact absurd H (by simp)

/-- THE ONE PURE STATEMENT of laws_FnNumberRead: yours. -/
def laws_FnNumberRead.Pure : Prop := ∀ (a0 : Int) (a1 : Int), (Lit.int .i64 a0).wf = true → (Lit.int .i64 a1).wf = true → ∃ k, laws_FnNumberRead.f k a0 a1 = some true
theorem laws_FnNumberRead.walk (P : laws_FnNumberRead.Pure) (a0 : Int) (a1 : Int) (w : World) (hLD : Laid w) (w0 : (Lit.int .i64 a0).wf = true) (w1 : (Lit.int .i64 a1).wf = true) :
    Calls Tryd.prog 4 #[.int .i64 a0, .int .i64 a1] w fun e w' => e = .returned (.bool true) ∧ Below w.heap.size w w' := by
  obtain ⟨k, h⟩ := P a0 a1 w0 w1
  refine (laws_FnNumberRead.calls k a0 a1 true w hLD h).mono ?_
  rintro e w' ⟨rfl, hd⟩
  exact ⟨rfl, hd⟩

end Go.Proofs.YtplmmblofhhikaaDoor.PU
