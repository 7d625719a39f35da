-- Written by wip/pp.py, a program of this session, out of the translation. Not trusted: Lean checks it.
import Derived.Test.YtplmmblofhhikaaDoorPMx0
import Derived.Test.YtplmmblofhhikaaDoorPMx8
namespace Go.Proofs.YtplmmblofhhikaaDoor.PM
open Go.RowKit Go.Proofs.YtplmmblofhhikaaDoor.Or Go.Proofs.YtplmmblofhhikaaDoorW.PrintWords Go.Proofs.YtplmmblofhhikaaDoorW.PrintLast Go.Proofs.YtplmmblofhhikaaDoorW.PrintMore
attribute [local go_sem] max2_int min2_int max_two min_two max_three min_three max_four min_four   -- for this text's walks alone
attribute [local go_sem] Ext.wrap64_mod256 Ext.wrap64_mod32 Ext.i64_mod256 Ext.i64_mod32 Ext.i64_u8 Ext.w64_u8 Ext.i64_u32 Ext.w64_u32 
attribute [-simp] List.drop_one List.length_drop   -- a list that is cut keeps its form
set_option linter.unusedVariables false
set_option linter.unusedSimpArgs false

/-! ### spec_MadeList: function 23 -/
mutual
def spec_MadeList.l0 : Nat → ByteArray → List Int → Int → Int → Option (ByteArray)
  | 0, _, _, _, _ => none
  | k + 1, x5, x68, x69, x70 => if x70 < x69 then (if 0 ≤ x70 then (if x70 < (x68.length : Int) then (if (rd x68 x70) ≥ 0 then ((spec_Digits.f k (rd x68 x70)).bind fun t291 => (if 1 + t291.size ≤ 9223372036854775807 then (if x5.size + (1 + t291.size) ≤ 9223372036854775807 then (spec_MadeList.l0 k (x5 ++ ((⟨#[59]⟩ : ByteArray) ++ t291)) x68 x69 (wrap64 (x70 + 1))) else (none)) else (none))) else (spec_MadeList.l0 k x5 x68 x69 (wrap64 (x70 + 1)))) else (none)) else (none)) else (if x5.size + 1 ≤ 9223372036854775807 then (some (x5 ++ (⟨#[116]⟩ : ByteArray))) else (none))
def spec_MadeList.l1 : Nat → ByteArray → List Int → Int → Int → Option (ByteArray)
  | 0, _, _, _, _ => none
  | k + 1, x9, x153, x154, x155 => if x155 < x154 then (if 0 ≤ x155 then (if x155 < (x153.length : Int) then ((spec_Digits.f k (mx (rd x153 x155) 0)).bind fun t309 => (if 1 + t309.size ≤ 9223372036854775807 then (if x9.size + (1 + t309.size) ≤ 9223372036854775807 then (spec_MadeList.l1 k (x9 ++ ((⟨#[59]⟩ : ByteArray) ++ t309)) x153 x154 (wrap64 (x155 + 1))) else (none)) else (none))) else (none)) else (none)) else (if x9.size + 1 ≤ 9223372036854775807 then (some (x9 ++ (⟨#[116]⟩ : ByteArray))) else (none))
end
def spec_MadeList.f (k : Nat) (a0 : Int) (l1 : List Int) : Option (ByteArray) := if a0 = 0 then (if (l1.length : Int) = 0 then (some (⟨#[27, 91, 99]⟩ : ByteArray)) else (if (l1.length : Int) = 1 then (if 0 < (l1.length : Int) then (if (rd l1 0) = 0 then (some (⟨#[27, 91, 48, 99]⟩ : ByteArray)) else ((spec_madeNumbers.f k l1 (⟨#[59]⟩ : ByteArray)).bind fun t277 => (if 3 + t277.size ≤ 9223372036854775807 then (if 3 + t277.size + 1 ≤ 9223372036854775807 then (some (((⟨#[27, 91, 63]⟩ : ByteArray) ++ t277) ++ (⟨#[99]⟩ : ByteArray))) else (none)) else (none)))) else (none)) else ((spec_madeNumbers.f k l1 (⟨#[59]⟩ : ByteArray)).bind fun t278 => (if 3 + t278.size ≤ 9223372036854775807 then (if 3 + t278.size + 1 ≤ 9223372036854775807 then (some (((⟨#[27, 91, 63]⟩ : ByteArray) ++ t278) ++ (⟨#[99]⟩ : ByteArray))) else (none)) else (none))))) else (if a0 = 1 then ((spec_madeNumbers.f k l1 (⟨#[59]⟩ : ByteArray)).bind fun t279 => (if 3 + t279.size ≤ 9223372036854775807 then (if 3 + t279.size + 1 ≤ 9223372036854775807 then (some (((⟨#[27, 91, 62]⟩ : ByteArray) ++ t279) ++ (⟨#[99]⟩ : ByteArray))) else (none)) else (none))) else (if a0 = 2 then ((spec_madeNumbers.f k l1 (⟨#[59]⟩ : ByteArray)).bind fun t280 => (if 5 + t280.size ≤ 9223372036854775807 then (if 5 + t280.size + 2 ≤ 9223372036854775807 then (some (((⟨#[27, 80, 49, 36, 117]⟩ : ByteArray) ++ t280) ++ (⟨#[27, 92]⟩ : ByteArray))) else (none)) else (none))) else (if a0 = 3 then ((spec_madeNumbers.f k l1 (⟨#[47]⟩ : ByteArray)).bind fun t281 => (if 5 + t281.size ≤ 9223372036854775807 then (if 5 + t281.size + 2 ≤ 9223372036854775807 then (some (((⟨#[27, 80, 50, 36, 117]⟩ : ByteArray) ++ t281) ++ (⟨#[27, 92]⟩ : ByteArray))) else (none)) else (none))) else (if a0 = 4 then ((spec_StyleParts.f k l1 ([] : List (S109))).bind fun t282 => ((spec_StyleText.f k t282).bind fun t285 => (some t285))) else (if a0 = 5 then (if 0 < (l1.length : Int) then (if (rd l1 0) ≤ 0 then (some (⟨#[]⟩ : ByteArray)) else ((spec_Digits.f k (rd l1 0)).bind fun t288 => (if 2 + t288.size ≤ 9223372036854775807 then (if 1 ≤ (l1.length : Int) then (spec_MadeList.l0 k ((⟨#[27, 91]⟩ : ByteArray) ++ t288) (l1.drop 1) ((l1.drop 1).length : Int) 0) else (none)) else (none)))) else (none)) else (if a0 = 6 then (if (l1.length : Int) = 1 then (if 0 < (l1.length : Int) then ((spec_Digits.f k (rd l1 0)).bind fun t293 => (if 3 + t293.size ≤ 9223372036854775807 then (if 3 + t293.size + 1 ≤ 9223372036854775807 then (some (((⟨#[27, 91, 62]⟩ : ByteArray) ++ t293) ++ (⟨#[109]⟩ : ByteArray))) else (none)) else (none))) else (none)) else (if 1 < (l1.length : Int) then (if (rd l1 1) > 0 then (if 0 < (l1.length : Int) then ((spec_madeAbove.f k (rd l1 0) 0).bind fun t296 => (if 3 + t296.size ≤ 9223372036854775807 then (if 3 + t296.size + 1 ≤ 9223372036854775807 then ((spec_Digits.f k (rd l1 1)).bind fun t298 => (if 3 + t296.size + 1 + t298.size ≤ 9223372036854775807 then (if 3 + t296.size + 1 + t298.size + 1 ≤ 9223372036854775807 then (some (((((⟨#[27, 91, 62]⟩ : ByteArray) ++ t296) ++ (⟨#[59]⟩ : ByteArray)) ++ t298) ++ (⟨#[109]⟩ : ByteArray))) else (none)) else (none))) else (none)) else (none))) else (none)) else (if 0 < (l1.length : Int) then ((spec_madeAbove.f k (rd l1 0) 0).bind fun t300 => (if 3 + t300.size ≤ 9223372036854775807 then (if 3 + t300.size + 1 ≤ 9223372036854775807 then (some (((⟨#[27, 91, 62]⟩ : ByteArray) ++ t300) ++ (⟨#[109]⟩ : ByteArray))) else (none)) else (none))) else (none))) else (none))) else (if a0 = 7 then (if (l1.length : Int) = 3 then (if 0 < (l1.length : Int) then ((spec_Digits.f k (mx (rd l1 0) 1)).bind fun t302 => (if 3 + t302.size ≤ 9223372036854775807 then (if 3 + t302.size + 1 ≤ 9223372036854775807 then (if 1 < (l1.length : Int) then ((spec_Digits.f k (mx (rd l1 1) 1)).bind fun t304 => (if 3 + t302.size + 1 + t304.size ≤ 9223372036854775807 then (if 2 < (l1.length : Int) then (if (rd l1 2) > 0 then ((spec_Digits.f k (rd l1 2)).bind fun t307 => (if 1 + t307.size ≤ 9223372036854775807 then (if 3 + t302.size + 1 + t304.size + (1 + t307.size) ≤ 9223372036854775807 then (if 3 + t302.size + 1 + t304.size + (1 + t307.size) + 1 ≤ 9223372036854775807 then (some ((((((⟨#[27, 91, 63]⟩ : ByteArray) ++ t302) ++ (⟨#[59]⟩ : ByteArray)) ++ t304) ++ ((⟨#[59]⟩ : ByteArray) ++ t307)) ++ (⟨#[82]⟩ : ByteArray))) else (none)) else (none)) else (none))) else (if 3 + t302.size + 1 + t304.size + 1 ≤ 9223372036854775807 then (some (((((⟨#[27, 91, 63]⟩ : ByteArray) ++ t302) ++ (⟨#[59]⟩ : ByteArray)) ++ t304) ++ (⟨#[82]⟩ : ByteArray))) else (none))) else (none)) else (none))) else (none)) else (none)) else (none))) else (none)) else (some (⟨#[]⟩ : ByteArray))) else (if (l1.length : Int) = 4 then (spec_MadeList.l1 k (⟨#[27, 91, 52, 56]⟩ : ByteArray) l1 (l1.length : Int) 0) else (some (⟨#[]⟩ : ByteArray))))))))))
theorem spec_MadeList.mono_l : ∀ k, (∀ y0 y1 y2 y3, LeO (spec_MadeList.l0 k y0 y1 y2 y3) (spec_MadeList.l0 (k + 1) y0 y1 y2 y3)) ∧ (∀ y0 y1 y2 y3, LeO (spec_MadeList.l1 k y0 y1 y2 y3) (spec_MadeList.l1 (k + 1) y0 y1 y2 y3))
  | 0 => ⟨fun _ _ _ _ r h => by simp [spec_MadeList.l0] at h, fun _ _ _ _ r h => by simp [spec_MadeList.l1] at h⟩
  | k + 1 => by
    obtain ⟨ih0, ih1⟩ := spec_MadeList.mono_l k
    refine ⟨?_, ?_⟩
    · intro y0 y1 y2 y3
      unfold spec_MadeList.l0
      repeat' first
      | (with_reducible exact ih0 _ _ _ _)
      | (with_reducible exact ih1 _ _ _ _)
      | (with_reducible exact spec_Digits.mono _ _)
      | (with_reducible exact spec_StyleParts.mono _ _ _)
      | (with_reducible exact spec_StyleText.mono _ _)
      | (with_reducible exact spec_madeAbove.mono _ _ _)
      | (with_reducible exact spec_madeNumbers.mono _ _ _)
      | (with_reducible exact LeO.refl _)
      | (with_reducible exact LeO.none _)
      | (with_reducible refine LeO.ite ?_ ?_)
      | (with_reducible refine LeO.bind ?_ (fun _ => ?_))
      | exact ih0 _ _ _ _
      | exact ih1 _ _ _ _
      | exact spec_Digits.mono _ _
      | exact spec_StyleParts.mono _ _ _
      | exact spec_StyleText.mono _ _
      | exact spec_madeAbove.mono _ _ _
      | exact spec_madeNumbers.mono _ _ _
      | exact LeO.none _
      | refine LeO.ite ?_ ?_
      | refine LeO.bind ?_ (fun _ => ?_)
    · intro y0 y1 y2 y3
      unfold spec_MadeList.l1
      repeat' first
      | (with_reducible exact ih0 _ _ _ _)
      | (with_reducible exact ih1 _ _ _ _)
      | (with_reducible exact spec_Digits.mono _ _)
      | (with_reducible exact spec_StyleParts.mono _ _ _)
      | (with_reducible exact spec_StyleText.mono _ _)
      | (with_reducible exact spec_madeAbove.mono _ _ _)
      | (with_reducible exact spec_madeNumbers.mono _ _ _)
      | (with_reducible exact LeO.refl _)
      | (with_reducible exact LeO.none _)
      | (with_reducible refine LeO.ite ?_ ?_)
      | (with_reducible refine LeO.bind ?_ (fun _ => ?_))
      | exact ih0 _ _ _ _
      | exact ih1 _ _ _ _
      | exact spec_Digits.mono _ _
      | exact spec_StyleParts.mono _ _ _
      | exact spec_StyleText.mono _ _
      | exact spec_madeAbove.mono _ _ _
      | exact spec_madeNumbers.mono _ _ _
      | exact LeO.none _
      | refine LeO.ite ?_ ?_
      | refine LeO.bind ?_ (fun _ => ?_)
theorem spec_MadeList.mono : ∀ a0 a1 k, LeO (spec_MadeList.f k a0 a1) (spec_MadeList.f (k + 1) a0 a1) := by
  intro a0 a1 k
  obtain ⟨ih0, ih1⟩ := spec_MadeList.mono_l k
  unfold spec_MadeList.f
  repeat' first
      | (with_reducible exact ih0 _ _ _ _)
      | (with_reducible exact ih1 _ _ _ _)
      | (with_reducible exact spec_Digits.mono _ _)
      | (with_reducible exact spec_StyleParts.mono _ _ _)
      | (with_reducible exact spec_StyleText.mono _ _)
      | (with_reducible exact spec_madeAbove.mono _ _ _)
      | (with_reducible exact spec_madeNumbers.mono _ _ _)
      | (with_reducible exact LeO.refl _)
      | (with_reducible exact LeO.none _)
      | (with_reducible refine LeO.ite ?_ ?_)
      | (with_reducible refine LeO.bind ?_ (fun _ => ?_))
      | exact ih0 _ _ _ _
      | exact ih1 _ _ _ _
      | exact spec_Digits.mono _ _
      | exact spec_StyleParts.mono _ _ _
      | exact spec_StyleText.mono _ _
      | exact spec_madeAbove.mono _ _ _
      | exact spec_madeNumbers.mono _ _ _
      | exact LeO.none _
      | refine LeO.ite ?_ ?_
      | refine LeO.bind ?_ (fun _ => ?_)
def spec_MadeList.T31 : Bool × List (List Nat × List Nat) := (true, [([], []), ([0], [0]), ([1], [1]), ([2], [2]), ([3], [3]), ([4], [4]), ([], []), ([6], [6]), ([7], [7]), ([8, 3], [8]), ([5, 9], [5, 9]), ([10], [10]), ([11, 9, 0, 1, 2, 3, 4, 5, 6, 7, 8, 9, 10, 11], [11])])
def spec_MadeList.B31 : List Nat := [0, 1, 3, 7, 15, 31, 0, 64, 192, 463, 1023, 2047, 4095]
theorem spec_MadeList.tab31 : rtab .any (opsOf Tryd.f23 31) = spec_MadeList.T31 := by kernel_rfl
theorem spec_MadeList.bits31 : waitsOk spec_MadeList.T31.2 spec_MadeList.B31 = true := by kernel_rfl
def spec_MadeList.T36 : Bool × List (List Nat × List Nat) := (true, [([], []), ([0], [0]), ([1], [1]), ([2], [2]), ([3], [3]), ([4], [4]), ([5], [5]), ([], []), ([7], [7]), ([8], [8]), ([9], [9]), ([10, 4], [10]), ([6, 11], [6, 11]), ([12, 11, 0, 1, 2, 3, 4, 5, 6, 7, 8, 9, 10, 11, 12], [12])])
def spec_MadeList.B36 : List Nat := [0, 1, 3, 7, 15, 31, 63, 0, 128, 384, 896, 1951, 4095, 8191]
theorem spec_MadeList.tab36 : rtab .any (opsOf Tryd.f23 36) = spec_MadeList.T36 := by kernel_rfl
theorem spec_MadeList.bits36 : waitsOk spec_MadeList.T36.2 spec_MadeList.B36 = true := by kernel_rfl
set_option maxHeartbeats 8000000 in
set_option maxRecDepth 100000 in
theorem spec_MadeList.calls (k : Nat) (a0 : Int) (A1 : Option Addr) (c1 : Nat) (l1 : List Int) (r : ByteArray) (w : World) (hr1 : Kd.C (Kd.int .i64) w A1 l1.length l1) (hc1 : l1.length ≤ c1) (h : spec_MadeList.f k a0 l1 = some r) :
    Calls Tryd.prog 23 #[.int .i64 a0, .slice A1 l1.length c1] w fun e w' => e = .returned (.string r) ∧ Below w.heap.size w w' := by
  have HR1 := Aside0.mk hr1
  have HC1 := Aside0.mk hc1
  clear hr1 hc1
  have HB := Aside0.mk (Below.refl w.heap.size w)
  have H : (if a0 = 0 then (if (l1.length : Int) = 0 then (some (⟨#[27, 91, 99]⟩ : ByteArray)) else (if (l1.length : Int) = 1 then (if 0 < (l1.length : Int) then (if (rd l1 0) = 0 then (some (⟨#[27, 91, 48, 99]⟩ : ByteArray)) else ((spec_madeNumbers.f k l1 (⟨#[59]⟩ : ByteArray)).bind fun t277 => (if 3 + t277.size ≤ 9223372036854775807 then (if 3 + t277.size + 1 ≤ 9223372036854775807 then (some (((⟨#[27, 91, 63]⟩ : ByteArray) ++ t277) ++ (⟨#[99]⟩ : ByteArray))) else (none)) else (none)))) else (none)) else ((spec_madeNumbers.f k l1 (⟨#[59]⟩ : ByteArray)).bind fun t278 => (if 3 + t278.size ≤ 9223372036854775807 then (if 3 + t278.size + 1 ≤ 9223372036854775807 then (some (((⟨#[27, 91, 63]⟩ : ByteArray) ++ t278) ++ (⟨#[99]⟩ : ByteArray))) else (none)) else (none))))) else (if a0 = 1 then ((spec_madeNumbers.f k l1 (⟨#[59]⟩ : ByteArray)).bind fun t279 => (if 3 + t279.size ≤ 9223372036854775807 then (if 3 + t279.size + 1 ≤ 9223372036854775807 then (some (((⟨#[27, 91, 62]⟩ : ByteArray) ++ t279) ++ (⟨#[99]⟩ : ByteArray))) else (none)) else (none))) else (if a0 = 2 then ((spec_madeNumbers.f k l1 (⟨#[59]⟩ : ByteArray)).bind fun t280 => (if 5 + t280.size ≤ 9223372036854775807 then (if 5 + t280.size + 2 ≤ 9223372036854775807 then (some (((⟨#[27, 80, 49, 36, 117]⟩ : ByteArray) ++ t280) ++ (⟨#[27, 92]⟩ : ByteArray))) else (none)) else (none))) else (if a0 = 3 then ((spec_madeNumbers.f k l1 (⟨#[47]⟩ : ByteArray)).bind fun t281 => (if 5 + t281.size ≤ 9223372036854775807 then (if 5 + t281.size + 2 ≤ 9223372036854775807 then (some (((⟨#[27, 80, 50, 36, 117]⟩ : ByteArray) ++ t281) ++ (⟨#[27, 92]⟩ : ByteArray))) else (none)) else (none))) else (if a0 = 4 then ((spec_StyleParts.f k l1 ([] : List (S109))).bind fun t282 => ((spec_StyleText.f k t282).bind fun t285 => (some t285))) else (if a0 = 5 then (if 0 < (l1.length : Int) then (if (rd l1 0) ≤ 0 then (some (⟨#[]⟩ : ByteArray)) else ((spec_Digits.f k (rd l1 0)).bind fun t288 => (if 2 + t288.size ≤ 9223372036854775807 then (if 1 ≤ (l1.length : Int) then (spec_MadeList.l0 k ((⟨#[27, 91]⟩ : ByteArray) ++ t288) (l1.drop 1) ((l1.drop 1).length : Int) 0) else (none)) else (none)))) else (none)) else (if a0 = 6 then (if (l1.length : Int) = 1 then (if 0 < (l1.length : Int) then ((spec_Digits.f k (rd l1 0)).bind fun t293 => (if 3 + t293.size ≤ 9223372036854775807 then (if 3 + t293.size + 1 ≤ 9223372036854775807 then (some (((⟨#[27, 91, 62]⟩ : ByteArray) ++ t293) ++ (⟨#[109]⟩ : ByteArray))) else (none)) else (none))) else (none)) else (if 1 < (l1.length : Int) then (if (rd l1 1) > 0 then (if 0 < (l1.length : Int) then ((spec_madeAbove.f k (rd l1 0) 0).bind fun t296 => (if 3 + t296.size ≤ 9223372036854775807 then (if 3 + t296.size + 1 ≤ 9223372036854775807 then ((spec_Digits.f k (rd l1 1)).bind fun t298 => (if 3 + t296.size + 1 + t298.size ≤ 9223372036854775807 then (if 3 + t296.size + 1 + t298.size + 1 ≤ 9223372036854775807 then (some (((((⟨#[27, 91, 62]⟩ : ByteArray) ++ t296) ++ (⟨#[59]⟩ : ByteArray)) ++ t298) ++ (⟨#[109]⟩ : ByteArray))) else (none)) else (none))) else (none)) else (none))) else (none)) else (if 0 < (l1.length : Int) then ((spec_madeAbove.f k (rd l1 0) 0).bind fun t300 => (if 3 + t300.size ≤ 9223372036854775807 then (if 3 + t300.size + 1 ≤ 9223372036854775807 then (some (((⟨#[27, 91, 62]⟩ : ByteArray) ++ t300) ++ (⟨#[109]⟩ : ByteArray))) else (none)) else (none))) else (none))) else (none))) else (if a0 = 7 then (if (l1.length : Int) = 3 then (if 0 < (l1.length : Int) then ((spec_Digits.f k (mx (rd l1 0) 1)).bind fun t302 => (if 3 + t302.size ≤ 9223372036854775807 then (if 3 + t302.size + 1 ≤ 9223372036854775807 then (if 1 < (l1.length : Int) then ((spec_Digits.f k (mx (rd l1 1) 1)).bind fun t304 => (if 3 + t302.size + 1 + t304.size ≤ 9223372036854775807 then (if 2 < (l1.length : Int) then (if (rd l1 2) > 0 then ((spec_Digits.f k (rd l1 2)).bind fun t307 => (if 1 + t307.size ≤ 9223372036854775807 then (if 3 + t302.size + 1 + t304.size + (1 + t307.size) ≤ 9223372036854775807 then (if 3 + t302.size + 1 + t304.size + (1 + t307.size) + 1 ≤ 9223372036854775807 then (some ((((((⟨#[27, 91, 63]⟩ : ByteArray) ++ t302) ++ (⟨#[59]⟩ : ByteArray)) ++ t304) ++ ((⟨#[59]⟩ : ByteArray) ++ t307)) ++ (⟨#[82]⟩ : ByteArray))) else (none)) else (none)) else (none))) else (if 3 + t302.size + 1 + t304.size + 1 ≤ 9223372036854775807 then (some (((((⟨#[27, 91, 63]⟩ : ByteArray) ++ t302) ++ (⟨#[59]⟩ : ByteArray)) ++ t304) ++ (⟨#[82]⟩ : ByteArray))) else (none))) else (none)) else (none))) else (none)) else (none)) else (none))) else (none)) else (some (⟨#[]⟩ : ByteArray))) else (if (l1.length : Int) = 4 then (spec_MadeList.l1 k (⟨#[27, 91, 52, 56]⟩ : ByteArray) l1 (l1.length : Int) 0) else (some (⟨#[]⟩ : ByteArray))))))))))) = some r := h
  clear h
  by_cases c3 : a0 = 0
  · rw [if_pos c3] at H
    have c3b0 : (a0 == 0) = true := beq_iff_eq.mpr c3
    have c3b1 : (a0 != 0) = false := bne_eq_false_iff_eq.mpr c3
    clear c3
    by_cases c4 : (l1.length : Int) = 0
    · rw [if_pos c4] at H
      have c4b0 : ((l1.length : Int) == 0) = true := beq_iff_eq.mpr c4
      have c4b1 : ((l1.length : Int) != 0) = false := bne_eq_false_iff_eq.mpr c4
      clear c4
      obtain rfl := Option.some.inj H
      go_enter Tryd.func23, Tryd.ntmps23
      go_wp2
      go_ret
      exact ⟨by first | rfl | (simp [errW_none, errW_some] <;> rfl) | (simp [*, errW_none, errW_some] <;> rfl), by repeat (first | (with_reducible first | exact HB.out | apply below_alloc | apply Ext.below_bytes | apply pw_below_drewN | apply below_drew1) | exact HB.out)⟩
    · rw [if_neg c4] at H
      have c4b0 : ((l1.length : Int) == 0) = false := beq_eq_false_iff_ne.mpr c4
      have c4b1 : ((l1.length : Int) != 0) = true := bne_iff_ne.mpr c4
      have c4b2 : ¬ (l1 = []) := fun h_ => c4 (by rw [h_]; rfl)
      by_cases c5 : (l1.length : Int) = 1
      · rw [if_pos c5] at H
        have c5b0 : ((l1.length : Int) == 1) = true := beq_iff_eq.mpr c5
        have c5b1 : ((l1.length : Int) != 1) = false := bne_eq_false_iff_eq.mpr c5
        clear c5
        by_cases c6 : 0 < (l1.length : Int)
        · rw [if_pos c6] at H
          have c6b0 : decide (0 < (l1.length : Int)) = true := decide_eq_true c6
          have c6b1 : decide (0 < l1.length) = true := decide_eq_true (by omega)
          clear c6
          by_cases c7 : (rd l1 0) = 0
          · rw [if_pos c7] at H
            have c7b0 : ((rd l1 0) == 0) = true := beq_iff_eq.mpr c7
            have c7b1 : ((rd l1 0) != 0) = false := bne_eq_false_iff_eq.mpr c7
            clear c7
            obtain rfl := Option.some.inj H
            have p276 : 0 ≤ (0 : Int) := (by omega)
            have q276 : 0 < (l1.length : Int) := of_decide_eq_true (by first | (with_reducible assumption) | assumption)
            obtain ⟨ad276, e276, hx276_0⟩ := Kd.at_int HR1.out 0 p276 q276
            cases e276
            have qi276 : (0 < l1.length) = True := eq_true (by omega)
            (try rw [show ((0 : Int)).toNat = 0 from rfl] at hx276_0)
            (try rw [Addr.add_zero'] at hx276_0)
            replace p276 := eq_true p276
            replace q276 := eq_true q276
            go_enter Tryd.func23, Tryd.ntmps23
            go_wp2
            go_ret
            exact ⟨by first | rfl | (simp [errW_none, errW_some] <;> rfl) | (simp [*, errW_none, errW_some] <;> rfl), by repeat (first | (with_reducible first | exact HB.out | apply below_alloc | apply Ext.below_bytes | apply pw_below_drewN | apply below_drew1) | exact HB.out)⟩
          · rw [if_neg c7] at H
            have c7b0 : ((rd l1 0) == 0) = false := beq_eq_false_iff_ne.mpr c7
            have c7b1 : ((rd l1 0) != 0) = true := bne_iff_ne.mpr c7
            replace H := Option.bind_eq_some_iff.mp H
            obtain ⟨t277, A80, H⟩ := H
            replace H : (if 3 + t277.size ≤ 9223372036854775807 then (if 3 + t277.size + 1 ≤ 9223372036854775807 then (some (((⟨#[27, 91, 63]⟩ : ByteArray) ++ t277) ++ (⟨#[99]⟩ : ByteArray))) else (none)) else (none)) = some r := H
            have A8 := Aside0.mk A80
            clear A80
            by_cases c9 : 3 + t277.size ≤ 9223372036854775807
            · rw [if_pos c9] at H
              have c9b0 := eq_true c9
              have c9b1 : decide (3 + t277.size ≤ 9223372036854775807) = true := decide_eq_true c9
              try have c9b2 : (9223372036854775807 < 3 + t277.size) = False := eq_false (Nat.not_lt.2 c9)
              by_cases c10 : 3 + t277.size + 1 ≤ 9223372036854775807
              · rw [if_pos c10] at H
                have c10b0 := eq_true c10
                have c10b1 : decide (3 + t277.size + 1 ≤ 9223372036854775807) = true := decide_eq_true c10
                try have c10b2 : (9223372036854775807 < 3 + t277.size + 1) = False := eq_false (Nat.not_lt.2 c10)
                obtain rfl := Option.some.inj H
                have p276 : 0 ≤ (0 : Int) := (by omega)
                have q276 : 0 < (l1.length : Int) := of_decide_eq_true (by first | (with_reducible assumption) | assumption)
                obtain ⟨ad276, e276, hx276_0⟩ := Kd.at_int HR1.out 0 p276 q276
                cases e276
                have qi276 : (0 < l1.length) = True := eq_true (by omega)
                (try rw [show ((0 : Int)).toNat = 0 from rfl] at hx276_0)
                (try rw [Addr.add_zero'] at hx276_0)
                replace p276 := eq_true p276
                replace q276 := eq_true q276
                go_enter Tryd.func23, Tryd.ntmps23
                go_wp2_with (first | ((with_reducible refine gate_callee (f := 93) rfl ?_); refine goesL_ (some 30) rfl rfl Tryd.func93 (by kernel_rfl) rfl #[.slice (some ad276) l1.length c1, .string (⟨#[59]⟩ : ByteArray)] rfl (by (try simp only [List.map_toArray, List.map_cons, List.map_nil]); first | done | rfl | (simp only [List.length_drop, List.length_take]; rfl) | (simp [Act.eval, *]; done)) ?_; (with_reducible refine (spec_madeNumbers.calls k _ _ l1 (⟨#[59]⟩ : ByteArray) t277 _ ?side1 ?side2 A8.out).mono ?_); (case side1 => repeat (first | exact HR1.out | (with_reducible refine Kd.C_alloc ?_ _) | (with_reducible refine Kd.C_drewN ?_ _) | (with_reducible refine Kd.C_drew ?_))); (case side2 => exact HC1.out); rintro e w11 ⟨rfl, hb⟩; refine ⟨_, rfl, ?_⟩; have n0_ := Aside0.mk (below_step (by repeat (first | (with_reducible first | exact HB.out | apply below_alloc | apply Ext.below_bytes | apply pw_below_drewN | apply below_drew1) | exact HB.out)) hb); clear HB; have HB := n0_; clear n0_; (try clear hb); (try clear hb2); (try clear hk); (try clear hi)))
                go_ret
                exact ⟨by first | rfl | (simp [errW_none, errW_some] <;> rfl) | (simp [*, errW_none, errW_some] <;> rfl), by repeat (first | (with_reducible first | exact HB.out | apply below_alloc | apply Ext.below_bytes | apply pw_below_drewN | apply below_drew1) | exact HB.out)⟩
              · rw [if_neg c10] at H
                exact absurd H (by simp)
            · rw [if_neg c9] at H
              exact absurd H (by simp)
        · rw [if_neg c6] at H
          exact absurd H (by simp)
      · rw [if_neg c5] at H
        have c5b0 : ((l1.length : Int) == 1) = false := beq_eq_false_iff_ne.mpr c5
        have c5b1 : ((l1.length : Int) != 1) = true := bne_iff_ne.mpr c5
        replace H := Option.bind_eq_some_iff.mp H
        obtain ⟨t278, A120, H⟩ := H
        replace H : (if 3 + t278.size ≤ 9223372036854775807 then (if 3 + t278.size + 1 ≤ 9223372036854775807 then (some (((⟨#[27, 91, 63]⟩ : ByteArray) ++ t278) ++ (⟨#[99]⟩ : ByteArray))) else (none)) else (none)) = some r := H
        have A12 := Aside0.mk A120
        clear A120
        by_cases c13 : 3 + t278.size ≤ 9223372036854775807
        · rw [if_pos c13] at H
          have c13b0 := eq_true c13
          have c13b1 : decide (3 + t278.size ≤ 9223372036854775807) = true := decide_eq_true c13
          try have c13b2 : (9223372036854775807 < 3 + t278.size) = False := eq_false (Nat.not_lt.2 c13)
          by_cases c14 : 3 + t278.size + 1 ≤ 9223372036854775807
          · rw [if_pos c14] at H
            have c14b0 := eq_true c14
            have c14b1 : decide (3 + t278.size + 1 ≤ 9223372036854775807) = true := decide_eq_true c14
            try have c14b2 : (9223372036854775807 < 3 + t278.size + 1) = False := eq_false (Nat.not_lt.2 c14)
            obtain rfl := Option.some.inj H
            go_enter Tryd.func23, Tryd.ntmps23
            go_wp2_with (first | ((with_reducible refine gate_callee (f := 93) rfl ?_); refine goesL_ (some 30) rfl rfl Tryd.func93 (by kernel_rfl) rfl #[.slice A1 l1.length c1, .string (⟨#[59]⟩ : ByteArray)] rfl (by (try simp only [List.map_toArray, List.map_cons, List.map_nil]); first | done | rfl | (simp only [List.length_drop, List.length_take]; rfl) | (simp [Act.eval, *]; done)) ?_; (with_reducible refine (spec_madeNumbers.calls k _ _ l1 (⟨#[59]⟩ : ByteArray) t278 _ ?side1 ?side2 A12.out).mono ?_); (case side1 => repeat (first | exact HR1.out | (with_reducible refine Kd.C_alloc ?_ _) | (with_reducible refine Kd.C_drewN ?_ _) | (with_reducible refine Kd.C_drew ?_))); (case side2 => exact HC1.out); rintro e w15 ⟨rfl, hb⟩; refine ⟨_, rfl, ?_⟩; have n0_ := Aside0.mk (below_step (by repeat (first | (with_reducible first | exact HB.out | apply below_alloc | apply Ext.below_bytes | apply pw_below_drewN | apply below_drew1) | exact HB.out)) hb); clear HB; have HB := n0_; clear n0_; (try clear hb); (try clear hb2); (try clear hk); (try clear hi)))
            go_ret
            exact ⟨by first | rfl | (simp [errW_none, errW_some] <;> rfl) | (simp [*, errW_none, errW_some] <;> rfl), by repeat (first | (with_reducible first | exact HB.out | apply below_alloc | apply Ext.below_bytes | apply pw_below_drewN | apply below_drew1) | exact HB.out)⟩
          · rw [if_neg c14] at H
            exact absurd H (by simp)
        · rw [if_neg c13] at H
          exact absurd H (by simp)
  · rw [if_neg c3] at H
    have c3b0 : (a0 == 0) = false := beq_eq_false_iff_ne.mpr c3
    have c3b1 : (a0 != 0) = true := bne_iff_ne.mpr c3
    by_cases c16 : a0 = 1
    · rw [if_pos c16] at H
      have c16b0 : (a0 == 1) = true := beq_iff_eq.mpr c16
      have c16b1 : (a0 != 1) = false := bne_eq_false_iff_eq.mpr c16
      clear c16
      replace H := Option.bind_eq_some_iff.mp H
      obtain ⟨t279, A170, H⟩ := H
      replace H : (if 3 + t279.size ≤ 9223372036854775807 then (if 3 + t279.size + 1 ≤ 9223372036854775807 then (some (((⟨#[27, 91, 62]⟩ : ByteArray) ++ t279) ++ (⟨#[99]⟩ : ByteArray))) else (none)) else (none)) = some r := H
      have A17 := Aside0.mk A170
      clear A170
      by_cases c18 : 3 + t279.size ≤ 9223372036854775807
      · rw [if_pos c18] at H
        have c18b0 := eq_true c18
        have c18b1 : decide (3 + t279.size ≤ 9223372036854775807) = true := decide_eq_true c18
        try have c18b2 : (9223372036854775807 < 3 + t279.size) = False := eq_false (Nat.not_lt.2 c18)
        by_cases c19 : 3 + t279.size + 1 ≤ 9223372036854775807
        · rw [if_pos c19] at H
          have c19b0 := eq_true c19
          have c19b1 : decide (3 + t279.size + 1 ≤ 9223372036854775807) = true := decide_eq_true c19
          try have c19b2 : (9223372036854775807 < 3 + t279.size + 1) = False := eq_false (Nat.not_lt.2 c19)
          obtain rfl := Option.some.inj H
          go_enter Tryd.func23, Tryd.ntmps23
          go_wp2_with (first | ((with_reducible refine gate_callee (f := 93) rfl ?_); refine goesL_ (some 36) rfl rfl Tryd.func93 (by kernel_rfl) rfl #[.slice A1 l1.length c1, .string (⟨#[59]⟩ : ByteArray)] rfl (by (try simp only [List.map_toArray, List.map_cons, List.map_nil]); first | done | rfl | (simp only [List.length_drop, List.length_take]; rfl) | (simp [Act.eval, *]; done)) ?_; (with_reducible refine (spec_madeNumbers.calls k _ _ l1 (⟨#[59]⟩ : ByteArray) t279 _ ?side1 ?side2 A17.out).mono ?_); (case side1 => repeat (first | exact HR1.out | (with_reducible refine Kd.C_alloc ?_ _) | (with_reducible refine Kd.C_drewN ?_ _) | (with_reducible refine Kd.C_drew ?_))); (case side2 => exact HC1.out); rintro e w20 ⟨rfl, hb⟩; refine ⟨_, rfl, ?_⟩; have n0_ := Aside0.mk (below_step (by repeat (first | (with_reducible first | exact HB.out | apply below_alloc | apply Ext.below_bytes | apply pw_below_drewN | apply below_drew1) | exact HB.out)) hb); clear HB; have HB := n0_; clear n0_; (try clear hb); (try clear hb2); (try clear hk); (try clear hi)))
          go_ret
          exact ⟨by first | rfl | (simp [errW_none, errW_some] <;> rfl) | (simp [*, errW_none, errW_some] <;> rfl), by repeat (first | (with_reducible first | exact HB.out | apply below_alloc | apply Ext.below_bytes | apply pw_below_drewN | apply below_drew1) | exact HB.out)⟩
        · rw [if_neg c19] at H
          exact absurd H (by simp)
      · rw [if_neg c18] at H
        exact absurd H (by simp)
    · rw [if_neg c16] at H
      have c16b0 : (a0 == 1) = false := beq_eq_false_iff_ne.mpr c16
      have c16b1 : (a0 != 1) = true := bne_iff_ne.mpr c16
      by_cases c21 : a0 = 2
      · rw [if_pos c21] at H
        have c21b0 : (a0 == 2) = true := beq_iff_eq.mpr c21
        have c21b1 : (a0 != 2) = false := bne_eq_false_iff_eq.mpr c21
        clear c21
        replace H := Option.bind_eq_some_iff.mp H
        obtain ⟨t280, A220, H⟩ := H
        replace H : (if 5 + t280.size ≤ 9223372036854775807 then (if 5 + t280.size + 2 ≤ 9223372036854775807 then (some (((⟨#[27, 80, 49, 36, 117]⟩ : ByteArray) ++ t280) ++ (⟨#[27, 92]⟩ : ByteArray))) else (none)) else (none)) = some r := H
        have A22 := Aside0.mk A220
        clear A220
        by_cases c23 : 5 + t280.size ≤ 9223372036854775807
        · rw [if_pos c23] at H
          have c23b0 := eq_true c23
          have c23b1 : decide (5 + t280.size ≤ 9223372036854775807) = true := decide_eq_true c23
          try have c23b2 : (9223372036854775807 < 5 + t280.size) = False := eq_false (Nat.not_lt.2 c23)
          by_cases c24 : 5 + t280.size + 2 ≤ 9223372036854775807
          · rw [if_pos c24] at H
            have c24b0 := eq_true c24
            have c24b1 : decide (5 + t280.size + 2 ≤ 9223372036854775807) = true := decide_eq_true c24
            try have c24b2 : (9223372036854775807 < 5 + t280.size + 2) = False := eq_false (Nat.not_lt.2 c24)
            obtain rfl := Option.some.inj H
            go_enter Tryd.func23, Tryd.ntmps23
            go_wp2_with (first | ((with_reducible refine gate_callee (f := 93) rfl ?_); refine goesL_ (some 42) rfl rfl Tryd.func93 (by kernel_rfl) rfl #[.slice A1 l1.length c1, .string (⟨#[59]⟩ : ByteArray)] rfl (by (try simp only [List.map_toArray, List.map_cons, List.map_nil]); first | done | rfl | (simp only [List.length_drop, List.length_take]; rfl) | (simp [Act.eval, *]; done)) ?_; (with_reducible refine (spec_madeNumbers.calls k _ _ l1 (⟨#[59]⟩ : ByteArray) t280 _ ?side1 ?side2 A22.out).mono ?_); (case side1 => repeat (first | exact HR1.out | (with_reducible refine Kd.C_alloc ?_ _) | (with_reducible refine Kd.C_drewN ?_ _) | (with_reducible refine Kd.C_drew ?_))); (case side2 => exact HC1.out); rintro e w25 ⟨rfl, hb⟩; refine ⟨_, rfl, ?_⟩; have n0_ := Aside0.mk (below_step (by repeat (first | (with_reducible first | exact HB.out | apply below_alloc | apply Ext.below_bytes | apply pw_below_drewN | apply below_drew1) | exact HB.out)) hb); clear HB; have HB := n0_; clear n0_; (try clear hb); (try clear hb2); (try clear hk); (try clear hi)))
            go_ret
            exact ⟨by first | rfl | (simp [errW_none, errW_some] <;> rfl) | (simp [*, errW_none, errW_some] <;> rfl), by repeat (first | (with_reducible first | exact HB.out | apply below_alloc | apply Ext.below_bytes | apply pw_below_drewN | apply below_drew1) | exact HB.out)⟩
          · rw [if_neg c24] at H
            exact absurd H (by simp)
        · rw [if_neg c23] at H
          exact absurd H (by simp)
      · rw [if_neg c21] at H
        have c21b0 : (a0 == 2) = false := beq_eq_false_iff_ne.mpr c21
        have c21b1 : (a0 != 2) = true := bne_iff_ne.mpr c21
        by_cases c26 : a0 = 3
        · rw [if_pos c26] at H
          have c26b0 : (a0 == 3) = true := beq_iff_eq.mpr c26
          have c26b1 : (a0 != 3) = false := bne_eq_false_iff_eq.mpr c26
          clear c26
          replace H := Option.bind_eq_some_iff.mp H
          obtain ⟨t281, A270, H⟩ := H
          replace H : (if 5 + t281.size ≤ 9223372036854775807 then (if 5 + t281.size + 2 ≤ 9223372036854775807 then (some (((⟨#[27, 80, 50, 36, 117]⟩ : ByteArray) ++ t281) ++ (⟨#[27, 92]⟩ : ByteArray))) else (none)) else (none)) = some r := H
          have A27 := Aside0.mk A270
          clear A270
          by_cases c28 : 5 + t281.size ≤ 9223372036854775807
          · rw [if_pos c28] at H
            have c28b0 := eq_true c28
            have c28b1 : decide (5 + t281.size ≤ 9223372036854775807) = true := decide_eq_true c28
            try have c28b2 : (9223372036854775807 < 5 + t281.size) = False := eq_false (Nat.not_lt.2 c28)
            by_cases c29 : 5 + t281.size + 2 ≤ 9223372036854775807
            · rw [if_pos c29] at H
              have c29b0 := eq_true c29
              have c29b1 : decide (5 + t281.size + 2 ≤ 9223372036854775807) = true := decide_eq_true c29
              try have c29b2 : (9223372036854775807 < 5 + t281.size + 2) = False := eq_false (Nat.not_lt.2 c29)
              obtain rfl := Option.some.inj H
              go_enter Tryd.func23, Tryd.ntmps23
              go_wp2_with (first | ((with_reducible refine gate_callee (f := 93) rfl ?_); refine goesL_ (some 48) rfl rfl Tryd.func93 (by kernel_rfl) rfl #[.slice A1 l1.length c1, .string (⟨#[47]⟩ : ByteArray)] rfl (by (try simp only [List.map_toArray, List.map_cons, List.map_nil]); first | done | rfl | (simp only [List.length_drop, List.length_take]; rfl) | (simp [Act.eval, *]; done)) ?_; (with_reducible refine (spec_madeNumbers.calls k _ _ l1 (⟨#[47]⟩ : ByteArray) t281 _ ?side1 ?side2 A27.out).mono ?_); (case side1 => repeat (first | exact HR1.out | (with_reducible refine Kd.C_alloc ?_ _) | (with_reducible refine Kd.C_drewN ?_ _) | (with_reducible refine Kd.C_drew ?_))); (case side2 => exact HC1.out); rintro e w30 ⟨rfl, hb⟩; refine ⟨_, rfl, ?_⟩; have n0_ := Aside0.mk (below_step (by repeat (first | (with_reducible first | exact HB.out | apply below_alloc | apply Ext.below_bytes | apply pw_below_drewN | apply below_drew1) | exact HB.out)) hb); clear HB; have HB := n0_; clear n0_; (try clear hb); (try clear hb2); (try clear hk); (try clear hi)))
              go_ret
              exact ⟨by first | rfl | (simp [errW_none, errW_some] <;> rfl) | (simp [*, errW_none, errW_some] <;> rfl), by repeat (first | (with_reducible first | exact HB.out | apply below_alloc | apply Ext.below_bytes | apply pw_below_drewN | apply below_drew1) | exact HB.out)⟩
            · rw [if_neg c29] at H
              exact absurd H (by simp)
          · rw [if_neg c28] at H
            exact absurd H (by simp)
        · rw [if_neg c26] at H
          have c26b0 : (a0 == 3) = false := beq_eq_false_iff_ne.mpr c26
          have c26b1 : (a0 != 3) = true := bne_iff_ne.mpr c26
          by_cases c31 : a0 = 4
          · rw [if_pos c31] at H
            have c31b0 : (a0 == 4) = true := beq_iff_eq.mpr c31
            have c31b1 : (a0 != 4) = false := bne_eq_false_iff_eq.mpr c31
            clear c31
            replace H := Option.bind_eq_some_iff.mp H
            obtain ⟨t282, A320, H⟩ := H
            replace H : ((spec_StyleText.f k t282).bind fun t285 => (some t285)) = some r := H
            have A32 := Aside0.mk A320
            clear A320
            replace H := Option.bind_eq_some_iff.mp H
            obtain ⟨t285, A330, H⟩ := H
            replace H : (some t285) = some r := H
            have A33 := Aside0.mk A330
            clear A330
            obtain rfl := Option.some.inj H
            go_enter Tryd.func23, Tryd.ntmps23
            go_wp2_with (first | ((with_reducible refine gate_callee (f := 95) rfl ?_); refine goesL_ (some 54) rfl rfl Tryd.func95 (by kernel_rfl) rfl #[.slice A1 l1.length c1, .slice none 0 0] rfl (by (try simp only [List.map_toArray, List.map_cons, List.map_nil]); first | done | rfl | (simp only [List.length_drop, List.length_take]; rfl) | (simp [Act.eval, *]; done)) ?_; (refine (spec_StyleParts.calls k _ _ l1 _ _ ([] : List (S109)) t282 _ ?side1 ?side2 ?side3 ?side4 A32.out).mono ?_); (case side1 => repeat (first | exact HR1.out | (with_reducible refine Kd.C_alloc ?_ _) | (with_reducible refine Kd.C_drewN ?_ _) | (with_reducible refine Kd.C_drew ?_))); (case side2 => exact HC1.out); (case side3 => exact Kd.C_nil _ _); (case side4 => exact Nat.le_refl _); rintro e w34 ⟨v283, rfl, ho0, hb⟩; refine ⟨_, rfl, ?_⟩; have n0_ := Aside0.mk (Kd.R_lower ho0 (below_size (by repeat (first | (with_reducible first | exact HB.out | apply below_alloc | apply Ext.below_bytes | apply pw_below_drewN | apply below_drew1) | exact HB.out)))); have n1_ := Aside0.mk (below_step (by repeat (first | (with_reducible first | exact HB.out | apply below_alloc | apply Ext.below_bytes | apply pw_below_drewN | apply below_drew1) | exact HB.out)) hb); clear HB; have HO284 := n0_; have HB := n1_; clear n0_ n1_; (try clear hb); (try clear hb2); (try clear hk); (try clear hi); (try clear ho0); obtain ⟨Ao35, co35, eo35⟩ := Kd.R_slice HO284.out; subst eo35) | ((with_reducible refine gate_callee (f := 94) rfl ?_); refine goesL_ (some 55) rfl rfl Tryd.func94 (by kernel_rfl) rfl #[.slice Ao35 t282.length co35] rfl (by (try simp only [List.map_toArray, List.map_cons, List.map_nil]); first | done | rfl | (simp only [List.length_drop, List.length_take]; rfl) | (simp [Act.eval, *]; done)) ?_; (with_reducible refine (spec_StyleText.calls k _ _ t282 t285 _ ?side1 ?side2 A33.out).mono ?_); (case side1 => repeat (first | exact (Kd.R_reads' HO284.out).2.2 | (with_reducible refine Kd.C_alloc ?_ _) | (with_reducible refine Kd.C_drewN ?_ _) | (with_reducible refine Kd.C_drew ?_))); (case side2 => exact (Kd.R_reads' HO284.out).2.1); rintro e w' ⟨rfl, ⟨nd, rfl⟩⟩; refine ⟨_, rfl, ?_⟩))
            go_ret
            exact ⟨by first | rfl | (simp [errW_none, errW_some] <;> rfl) | (simp [*, errW_none, errW_some] <;> rfl), by repeat (first | (with_reducible first | exact HB.out | apply below_alloc | apply Ext.below_bytes | apply pw_below_drewN | apply below_drew1) | exact HB.out)⟩
          · rw [if_neg c31] at H
            have c31b0 : (a0 == 4) = false := beq_eq_false_iff_ne.mpr c31
            have c31b1 : (a0 != 4) = true := bne_iff_ne.mpr c31
            by_cases c36 : a0 = 5
            · rw [if_pos c36] at H
              have c36b0 : (a0 == 5) = true := beq_iff_eq.mpr c36
              have c36b1 : (a0 != 5) = false := bne_eq_false_iff_eq.mpr c36
              clear c36
              by_cases c37 : 0 < (l1.length : Int)
              · rw [if_pos c37] at H
                have c37b0 : decide (0 < (l1.length : Int)) = true := decide_eq_true c37
                have c37b1 : decide (0 < l1.length) = true := decide_eq_true (by omega)
                clear c37
                by_cases c38 : (rd l1 0) ≤ 0
                · rw [if_pos c38] at H
                  have c38b0 : decide ((rd l1 0) ≤ 0) = true := decide_eq_true c38
                  clear c38
                  obtain rfl := Option.some.inj H
                  have p286 : 0 ≤ (0 : Int) := (by omega)
                  have q286 : 0 < (l1.length : Int) := of_decide_eq_true (by first | (with_reducible assumption) | assumption)
                  obtain ⟨ad286, e286, hx286_0⟩ := Kd.at_int HR1.out 0 p286 q286
                  cases e286
                  have qi286 : (0 < l1.length) = True := eq_true (by omega)
                  (try rw [show ((0 : Int)).toNat = 0 from rfl] at hx286_0)
                  (try rw [Addr.add_zero'] at hx286_0)
                  replace p286 := eq_true p286
                  replace q286 := eq_true q286
                  go_enter Tryd.func23, Tryd.ntmps23
                  go_wp2
                  go_ret
                  exact ⟨by first | rfl | (simp [errW_none, errW_some] <;> rfl) | (simp [*, errW_none, errW_some] <;> rfl), by repeat (first | (with_reducible first | exact HB.out | apply below_alloc | apply Ext.below_bytes | apply pw_below_drewN | apply below_drew1) | exact HB.out)⟩
                · rw [if_neg c38] at H
                  have c38b0 : decide ((rd l1 0) ≤ 0) = false := decide_eq_false c38
                  clear c38
                  replace H := Option.bind_eq_some_iff.mp H
                  obtain ⟨t288, A390, H⟩ := H
                  replace H : (if 2 + t288.size ≤ 9223372036854775807 then (if 1 ≤ (l1.length : Int) then (spec_MadeList.l0 k ((⟨#[27, 91]⟩ : ByteArray) ++ t288) (l1.drop 1) ((l1.drop 1).length : Int) 0) else (none)) else (none)) = some r := H
                  have A39 := Aside0.mk A390
                  clear A390
                  by_cases c40 : 2 + t288.size ≤ 9223372036854775807
                  · rw [if_pos c40] at H
                    have c40b0 := eq_true c40
                    have c40b1 : decide (2 + t288.size ≤ 9223372036854775807) = true := decide_eq_true c40
                    try have c40b2 : (9223372036854775807 < 2 + t288.size) = False := eq_false (Nat.not_lt.2 c40)
                    by_cases c41 : 1 ≤ (l1.length : Int)
                    · rw [if_pos c41] at H
                      have c41b0 := eq_true c41
                      have c41b1 : decide (1 ≤ (l1.length : Int)) = true := decide_eq_true c41
                      clear c41
                      have H' := Aside0.mk H
                      clear H
                      have p286 : 0 ≤ (0 : Int) := (by omega)
                      have q286 : 0 < (l1.length : Int) := of_decide_eq_true (by first | (with_reducible assumption) | assumption)
                      obtain ⟨ad286, e286, hx286_0⟩ := Kd.at_int HR1.out 0 p286 q286
                      cases e286
                      have qi286 : (0 < l1.length) = True := eq_true (by omega)
                      (try rw [show ((0 : Int)).toNat = 0 from rfl] at hx286_0)
                      (try rw [Addr.add_zero'] at hx286_0)
                      replace p286 := eq_true p286
                      replace q286 := eq_true q286
                      have p287 : 0 ≤ (0 : Int) := (by omega)
                      have q287 : 0 < (l1.length : Int) := of_decide_eq_true (by first | (with_reducible assumption) | assumption)
                      obtain ⟨ad287, e287, hx287_0⟩ := Kd.at_int HR1.out 0 p287 q287
                      obtain rfl : ad286 = ad287 := (by injection e287)
                      have qi287 : (0 < l1.length) = True := eq_true (by omega)
                      (try rw [show ((0 : Int)).toNat = 0 from rfl] at hx287_0)
                      (try rw [Addr.add_zero'] at hx287_0)
                      replace p287 := eq_true p287
                      replace q287 := eq_true q287
                      go_enter Tryd.func23, Tryd.ntmps23
                      go_wp2_with (first | ((with_reducible refine gate_callee (f := 71) rfl ?_); refine goesL_ (some 65) rfl rfl Tryd.func71 (by kernel_rfl) rfl #[.int .i64 (rd l1 0)] rfl (by (try simp only [List.map_toArray, List.map_cons, List.map_nil]); first | done | rfl | (simp only [List.length_drop, List.length_take]; rfl) | (simp [Act.eval, *]; done)) ?_; (with_reducible refine (spec_Digits.calls k (rd l1 0) t288 _ A39.out).mono ?_); rintro e w42 ⟨rfl, hb⟩; refine ⟨_, rfl, ?_⟩; have n0_ := Aside0.mk (below_step (by repeat (first | (with_reducible first | exact HB.out | apply below_alloc | apply Ext.below_bytes | apply pw_below_drewN | apply below_drew1) | exact HB.out)) hb); clear HB; have HB := n0_; clear n0_; (try clear hb); (try clear hb2); (try clear hk); (try clear hi); obtain ⟨i043, hi043, _, hsz43, _⟩ := info_parts info2; obtain ⟨A43, hcut43, hA43, hC43⟩ := print_drop_of (P := Tryd.prog) (Value.int .i64) 0 40 2 .i64 Tryd.underlying40 hi043 hsz43 (some ad286) c1 l1 1 (by omega) (of_decide_eq_true (by first | (with_reducible assumption) | assumption)) HC1.out; have HR289 := Aside0.mk (Kd.C_of_reads (h1 := fun _ => rfl) (hA43 _ (Kd.reads_of_C HR1.out))); have HC289 := Aside0.mk hC43; clear hA43 hC43 hi043 hsz43))
                      go_loopg [5, 70] k (fun kq v5 v70 w' => ∃ (x5_1 : ByteArray) (x70_1 : Int), v5 = .string x5_1 ∧ v70 = .int .i64 x70_1 ∧ Aside0 (spec_MadeList.l0 kq x5_1 (l1.drop 1) ((l1.drop 1).length : Int) x70_1 = some r) ∧ Aside0 (kq ≤ k) ∧ Aside0 (Below w.heap.size w w'))
                      case atStart => exact ⟨((⟨#[27, 91]⟩ : ByteArray) ++ t288), (0), (by first | rfl | (simp; done) | (simp [*]; done)), (by first | rfl | (simp; done) | (simp [*]; done)), H', ⟨Nat.le_refl _⟩, ⟨by repeat (first | (with_reducible first | exact HB.out | apply below_alloc | apply Ext.below_bytes | apply pw_below_drewN | apply below_drew1) | exact HB.out)⟩⟩
                      case round =>
                        clear H'
                        try clear c1
                        try clear c2
                        try clear p2
                        try clear q2
                        try clear hx2
                        try clear qi2
                        try clear c3
                        try clear c3b0
                        try clear c3b1
                        try clear c4
                        try clear c4b0
                        try clear c4b1
                        try clear c4b2
                        try clear c5
                        try clear c5b0
                        try clear c5b1
                        try clear c6
                        try clear c6b0
                        try clear c6b1
                        try clear c7
                        try clear c7b0
                        try clear c7b1
                        try clear c9
                        try clear c9b0
                        try clear c9b1
                        try clear c9b2
                        try clear c10
                        try clear c10b0
                        try clear c10b1
                        try clear c10b2
                        try clear c13
                        try clear c13b0
                        try clear c13b1
                        try clear c13b2
                        try clear c14
                        try clear c14b0
                        try clear c14b1
                        try clear c14b2
                        try clear c16
                        try clear c16b0
                        try clear c16b1
                        try clear c18
                        try clear c18b0
                        try clear c18b1
                        try clear c18b2
                        try clear c19
                        try clear c19b0
                        try clear c19b1
                        try clear c19b2
                        try clear c21
                        try clear c21b0
                        try clear c21b1
                        try clear c23
                        try clear c23b0
                        try clear c23b1
                        try clear c23b2
                        try clear c24
                        try clear c24b0
                        try clear c24b1
                        try clear c24b2
                        try clear c26
                        try clear c26b0
                        try clear c26b1
                        try clear p27
                        try clear q27
                        try clear hx27
                        try clear qi27
                        try clear c28
                        try clear c28b0
                        try clear c28b1
                        try clear c28b2
                        try clear p28
                        try clear q28
                        try clear hx28
                        try clear qi28
                        try clear c29
                        try clear c29b0
                        try clear c29b1
                        try clear c29b2
                        try clear c31
                        try clear c31b0
                        try clear c31b1
                        try clear c36
                        try clear c36b0
                        try clear c36b1
                        try clear c37
                        try clear c37b0
                        try clear c37b1
                        try clear c38
                        try clear c38b0
                        try clear c40
                        try clear c40b0
                        try clear c40b1
                        try clear c40b2
                        try clear c41
                        try clear c41b0
                        try clear c41b1
                        try clear hx276_0
                        try clear hx286_0
                        try clear hx287_0
                        try clear p276
                        try clear p286
                        try clear p287
                        try clear q276
                        try clear q286
                        try clear q287
                        obtain ⟨x5_1, x70_1, rfl, rfl, HA, HK1, HB⟩ := hrel
                        cases gk with
                        | zero => exact absurd HA.out (by simp [spec_MadeList.l0])
                        | succ k1 =>
                          have H := HA.out
                          clear HA
                          simp only [spec_MadeList.l0] at H
                          by_cases c44 : x70_1 < ((l1.drop 1).length : Int)
                          · rw [if_pos c44] at H
                            have c44b0 : decide (x70_1 < ((l1.drop 1).length : Int)) = true := decide_eq_true c44
                            clear c44
                            by_cases c45 : 0 ≤ x70_1
                            · rw [if_pos c45] at H
                              have c45b0 : decide (0 ≤ x70_1) = true := decide_eq_true c45
                              clear c45
                              by_cases c46 : x70_1 < ((l1.drop 1).length : Int)
                              · rw [if_pos c46] at H
                                have c46b0 : decide (x70_1 < ((l1.drop 1).length : Int)) = true := decide_eq_true c46
                                clear c46
                                by_cases c47 : (rd (l1.drop 1) x70_1) ≥ 0
                                · rw [if_pos c47] at H
                                  have c47b0 : decide (0 ≤ (rd (l1.drop 1) x70_1)) = true := decide_eq_true c47
                                  clear c47
                                  replace H := Option.bind_eq_some_iff.mp H
                                  obtain ⟨t291, A480, H⟩ := H
                                  replace H : (if 1 + t291.size ≤ 9223372036854775807 then (if x5_1.size + (1 + t291.size) ≤ 9223372036854775807 then (spec_MadeList.l0 k1 (x5_1 ++ ((⟨#[59]⟩ : ByteArray) ++ t291)) (l1.drop 1) ((l1.drop 1).length : Int) (wrap64 (x70_1 + 1))) else (none)) else (none)) = some r := H
                                  have A48 := Aside0.mk A480
                                  clear A480
                                  by_cases c49 : 1 + t291.size ≤ 9223372036854775807
                                  · rw [if_pos c49] at H
                                    have c49b0 := eq_true c49
                                    have c49b1 : decide (1 + t291.size ≤ 9223372036854775807) = true := decide_eq_true c49
                                    try have c49b2 : (9223372036854775807 < 1 + t291.size) = False := eq_false (Nat.not_lt.2 c49)
                                    by_cases c50 : x5_1.size + (1 + t291.size) ≤ 9223372036854775807
                                    · rw [if_pos c50] at H
                                      have c50b0 := eq_true c50
                                      have c50b1 : decide (x5_1.size + (1 + t291.size) ≤ 9223372036854775807) = true := decide_eq_true c50
                                      try have c50b2 : (9223372036854775807 < x5_1.size + (1 + t291.size)) = False := eq_false (Nat.not_lt.2 c50)
                                      have H' := Aside0.mk H
                                      clear H
                                      have p290 : 0 ≤ (x70_1 : Int) := of_decide_eq_true (by first | (with_reducible assumption) | assumption)
                                      have q290 : x70_1 < ((l1.drop 1).length : Int) := of_decide_eq_true (by first | (with_reducible assumption) | assumption)
                                      obtain ⟨ad290, e290, hx290_0⟩ := Kd.at_int HR289.out x70_1 p290 q290
                                      cases e290
                                      replace hx290_0 := (HB.out.cell (World.block_lt_of_cell? w _ hx290_0)).trans hx290_0
                                      replace p290 := eq_true p290
                                      replace q290 := eq_true q290
                                      go_wp2_with (first | ((with_reducible refine gate_callee (f := 71) rfl ?_); refine goesL_ (some 78) rfl rfl Tryd.func71 (by kernel_rfl) rfl #[.int .i64 (rd (l1.drop 1) x70_1)] rfl (by (try simp only [List.map_toArray, List.map_cons, List.map_nil]); first | done | rfl | (simp only [List.length_drop, List.length_take]; rfl) | (simp [Act.eval, *]; done)) ?_; (with_reducible refine (spec_Digits.calls k1 (rd (l1.drop 1) x70_1) t291 _ A48.out).mono ?_); rintro e w51 ⟨rfl, hb⟩; refine ⟨_, rfl, ?_⟩; have n0_ := Aside0.mk (below_step (by repeat (first | (with_reducible first | exact HB.out | apply below_alloc | apply Ext.below_bytes | apply pw_below_drewN | apply below_drew1) | exact HB.out)) hb); clear HB; have HB := n0_; clear n0_; (try clear hb); (try clear hb2); (try clear hk); (try clear hi)))
                                      go_roundg k1
                                      case measure => have := HK1.out; omega
                                      case rel => exact ⟨(x5_1 ++ ((⟨#[59]⟩ : ByteArray) ++ t291)), (wrap64 (x70_1 + 1)), (by first | rfl | (simp; done) | (simp [*]; done)), (by first | rfl | (simp; done) | (simp [*]; done)), H', ⟨by have := HK1.out; omega⟩, ⟨by repeat (first | (with_reducible first | exact HB.out | apply below_alloc | apply Ext.below_bytes | apply pw_below_drewN | apply below_drew1) | exact HB.out)⟩⟩
                                    · rw [if_neg c50] at H
                                      exact absurd H (by simp)
                                  · rw [if_neg c49] at H
                                    exact absurd H (by simp)
                                · rw [if_neg c47] at H
                                  have c47b0 : decide (0 ≤ (rd (l1.drop 1) x70_1)) = false := decide_eq_false c47
                                  clear c47
                                  have H' := Aside0.mk H
                                  clear H
                                  have p290 : 0 ≤ (x70_1 : Int) := of_decide_eq_true (by first | (with_reducible assumption) | assumption)
                                  have q290 : x70_1 < ((l1.drop 1).length : Int) := of_decide_eq_true (by first | (with_reducible assumption) | assumption)
                                  obtain ⟨ad290, e290, hx290_0⟩ := Kd.at_int HR289.out x70_1 p290 q290
                                  cases e290
                                  replace hx290_0 := (HB.out.cell (World.block_lt_of_cell? w _ hx290_0)).trans hx290_0
                                  replace p290 := eq_true p290
                                  replace q290 := eq_true q290
                                  go_wp2
                                  go_roundg k1
                                  case measure => have := HK1.out; omega
                                  case rel => exact ⟨(x5_1), (wrap64 (x70_1 + 1)), (by first | rfl | (simp; done) | (simp [*]; done)), (by first | rfl | (simp; done) | (simp [*]; done)), H', ⟨by have := HK1.out; omega⟩, ⟨by repeat (first | (with_reducible first | exact HB.out | apply below_alloc | apply Ext.below_bytes | apply pw_below_drewN | apply below_drew1) | exact HB.out)⟩⟩
                              · rw [if_neg c46] at H
                                exact absurd H (by simp)
                            · rw [if_neg c45] at H
                              exact absurd H (by simp)
                          · rw [if_neg c44] at H
                            have c44b0 : decide (x70_1 < ((l1.drop 1).length : Int)) = false := decide_eq_false c44
                            clear c44
                            by_cases c52 : x5_1.size + 1 ≤ 9223372036854775807
                            · rw [if_pos c52] at H
                              have c52b0 := eq_true c52
                              have c52b1 : decide (x5_1.size + 1 ≤ 9223372036854775807) = true := decide_eq_true c52
                              try have c52b2 : (9223372036854775807 < x5_1.size + 1) = False := eq_false (Nat.not_lt.2 c52)
                              obtain rfl := Option.some.inj H
                              go_wp2
                              go_ret
                              exact ⟨by first | rfl | (simp [errW_none, errW_some] <;> rfl) | (simp [*, errW_none, errW_some] <;> rfl), by repeat (first | (with_reducible first | exact HB.out | apply below_alloc | apply Ext.below_bytes | apply pw_below_drewN | apply below_drew1) | exact HB.out)⟩
                            · rw [if_neg c52] at H
                              exact absurd H (by simp)
                    · rw [if_neg c41] at H
                      exact absurd H (by simp)
                  · rw [if_neg c40] at H
                    exact absurd H (by simp)
              · rw [if_neg c37] at H
                exact absurd H (by simp)
            · rw [if_neg c36] at H
              have c36b0 : (a0 == 5) = false := beq_eq_false_iff_ne.mpr c36
              have c36b1 : (a0 != 5) = true := bne_iff_ne.mpr c36
              by_cases c53 : a0 = 6
              · rw [if_pos c53] at H
                have c53b0 : (a0 == 6) = true := beq_iff_eq.mpr c53
                have c53b1 : (a0 != 6) = false := bne_eq_false_iff_eq.mpr c53
                clear c53
                by_cases c54 : (l1.length : Int) = 1
                · rw [if_pos c54] at H
                  have c54b0 : ((l1.length : Int) == 1) = true := beq_iff_eq.mpr c54
                  have c54b1 : ((l1.length : Int) != 1) = false := bne_eq_false_iff_eq.mpr c54
                  clear c54
                  by_cases c55 : 0 < (l1.length : Int)
                  · rw [if_pos c55] at H
                    have c55b0 : decide (0 < (l1.length : Int)) = true := decide_eq_true c55
                    have c55b1 : decide (0 < l1.length) = true := decide_eq_true (by omega)
                    clear c55
                    replace H := Option.bind_eq_some_iff.mp H
                    obtain ⟨t293, A560, H⟩ := H
                    replace H : (if 3 + t293.size ≤ 9223372036854775807 then (if 3 + t293.size + 1 ≤ 9223372036854775807 then (some (((⟨#[27, 91, 62]⟩ : ByteArray) ++ t293) ++ (⟨#[109]⟩ : ByteArray))) else (none)) else (none)) = some r := H
                    have A56 := Aside0.mk A560
                    clear A560
                    by_cases c57 : 3 + t293.size ≤ 9223372036854775807
                    · rw [if_pos c57] at H
                      have c57b0 := eq_true c57
                      have c57b1 : decide (3 + t293.size ≤ 9223372036854775807) = true := decide_eq_true c57
                      try have c57b2 : (9223372036854775807 < 3 + t293.size) = False := eq_false (Nat.not_lt.2 c57)
                      by_cases c58 : 3 + t293.size + 1 ≤ 9223372036854775807
                      · rw [if_pos c58] at H
                        have c58b0 := eq_true c58
                        have c58b1 : decide (3 + t293.size + 1 ≤ 9223372036854775807) = true := decide_eq_true c58
                        try have c58b2 : (9223372036854775807 < 3 + t293.size + 1) = False := eq_false (Nat.not_lt.2 c58)
                        obtain rfl := Option.some.inj H
                        have p292 : 0 ≤ (0 : Int) := (by omega)
                        have q292 : 0 < (l1.length : Int) := of_decide_eq_true (by first | (with_reducible assumption) | assumption)
                        obtain ⟨ad292, e292, hx292_0⟩ := Kd.at_int HR1.out 0 p292 q292
                        cases e292
                        have qi292 : (0 < l1.length) = True := eq_true (by omega)
                        (try rw [show ((0 : Int)).toNat = 0 from rfl] at hx292_0)
                        (try rw [Addr.add_zero'] at hx292_0)
                        replace p292 := eq_true p292
                        replace q292 := eq_true q292
                        go_enter Tryd.func23, Tryd.ntmps23
                        go_wp2_with (first | ((with_reducible refine gate_callee (f := 71) rfl ?_); refine goesL_ (some 93) rfl rfl Tryd.func71 (by kernel_rfl) rfl #[.int .i64 (rd l1 0)] rfl (by (try simp only [List.map_toArray, List.map_cons, List.map_nil]); first | done | rfl | (simp only [List.length_drop, List.length_take]; rfl) | (simp [Act.eval, *]; done)) ?_; (with_reducible refine (spec_Digits.calls k (rd l1 0) t293 _ A56.out).mono ?_); rintro e w59 ⟨rfl, hb⟩; refine ⟨_, rfl, ?_⟩; have n0_ := Aside0.mk (below_step (by repeat (first | (with_reducible first | exact HB.out | apply below_alloc | apply Ext.below_bytes | apply pw_below_drewN | apply below_drew1) | exact HB.out)) hb); clear HB; have HB := n0_; clear n0_; (try clear hb); (try clear hb2); (try clear hk); (try clear hi)))
                        go_ret
                        exact ⟨by first | rfl | (simp [errW_none, errW_some] <;> rfl) | (simp [*, errW_none, errW_some] <;> rfl), by repeat (first | (with_reducible first | exact HB.out | apply below_alloc | apply Ext.below_bytes | apply pw_below_drewN | apply below_drew1) | exact HB.out)⟩
                      · rw [if_neg c58] at H
                        exact absurd H (by simp)
                    · rw [if_neg c57] at H
                      exact absurd H (by simp)
                  · rw [if_neg c55] at H
                    exact absurd H (by simp)
                · rw [if_neg c54] at H
                  have c54b0 : ((l1.length : Int) == 1) = false := beq_eq_false_iff_ne.mpr c54
                  have c54b1 : ((l1.length : Int) != 1) = true := bne_iff_ne.mpr c54
                  by_cases c60 : 1 < (l1.length : Int)
                  · rw [if_pos c60] at H
                    have c60b0 : decide (1 < (l1.length : Int)) = true := decide_eq_true c60
                    have c60b1 : decide (1 < l1.length) = true := decide_eq_true (by omega)
                    clear c60
                    by_cases c61 : (rd l1 1) > 0
                    · rw [if_pos c61] at H
                      have c61b0 : decide (0 < (rd l1 1)) = true := decide_eq_true c61
                      clear c61
                      by_cases c62 : 0 < (l1.length : Int)
                      · rw [if_pos c62] at H
                        have c62b0 : decide (0 < (l1.length : Int)) = true := decide_eq_true c62
                        have c62b1 : decide (0 < l1.length) = true := decide_eq_true (by omega)
                        clear c62
                        replace H := Option.bind_eq_some_iff.mp H
                        obtain ⟨t296, A630, H⟩ := H
                        replace H : (if 3 + t296.size ≤ 9223372036854775807 then (if 3 + t296.size + 1 ≤ 9223372036854775807 then ((spec_Digits.f k (rd l1 1)).bind fun t298 => (if 3 + t296.size + 1 + t298.size ≤ 9223372036854775807 then (if 3 + t296.size + 1 + t298.size + 1 ≤ 9223372036854775807 then (some (((((⟨#[27, 91, 62]⟩ : ByteArray) ++ t296) ++ (⟨#[59]⟩ : ByteArray)) ++ t298) ++ (⟨#[109]⟩ : ByteArray))) else (none)) else (none))) else (none)) else (none)) = some r := H
                        have A63 := Aside0.mk A630
                        clear A630
                        by_cases c64 : 3 + t296.size ≤ 9223372036854775807
                        · rw [if_pos c64] at H
                          have c64b0 := eq_true c64
                          have c64b1 : decide (3 + t296.size ≤ 9223372036854775807) = true := decide_eq_true c64
                          try have c64b2 : (9223372036854775807 < 3 + t296.size) = False := eq_false (Nat.not_lt.2 c64)
                          by_cases c65 : 3 + t296.size + 1 ≤ 9223372036854775807
                          · rw [if_pos c65] at H
                            have c65b0 := eq_true c65
                            have c65b1 : decide (3 + t296.size + 1 ≤ 9223372036854775807) = true := decide_eq_true c65
                            try have c65b2 : (9223372036854775807 < 3 + t296.size + 1) = False := eq_false (Nat.not_lt.2 c65)
                            replace H := Option.bind_eq_some_iff.mp H
                            obtain ⟨t298, A660, H⟩ := H
                            replace H : (if 3 + t296.size + 1 + t298.size ≤ 9223372036854775807 then (if 3 + t296.size + 1 + t298.size + 1 ≤ 9223372036854775807 then (some (((((⟨#[27, 91, 62]⟩ : ByteArray) ++ t296) ++ (⟨#[59]⟩ : ByteArray)) ++ t298) ++ (⟨#[109]⟩ : ByteArray))) else (none)) else (none)) = some r := H
                            have A66 := Aside0.mk A660
                            clear A660
                            by_cases c67 : 3 + t296.size + 1 + t298.size ≤ 9223372036854775807
                            · rw [if_pos c67] at H
                              have c67b0 := eq_true c67
                              have c67b1 : decide (3 + t296.size + 1 + t298.size ≤ 9223372036854775807) = true := decide_eq_true c67
                              try have c67b2 : (9223372036854775807 < 3 + t296.size + 1 + t298.size) = False := eq_false (Nat.not_lt.2 c67)
                              by_cases c68 : 3 + t296.size + 1 + t298.size + 1 ≤ 9223372036854775807
                              · rw [if_pos c68] at H
                                have c68b0 := eq_true c68
                                have c68b1 : decide (3 + t296.size + 1 + t298.size + 1 ≤ 9223372036854775807) = true := decide_eq_true c68
                                try have c68b2 : (9223372036854775807 < 3 + t296.size + 1 + t298.size + 1) = False := eq_false (Nat.not_lt.2 c68)
                                obtain rfl := Option.some.inj H
                                have p294 : 0 ≤ (1 : Int) := (by omega)
                                have q294 : 1 < (l1.length : Int) := of_decide_eq_true (by first | (with_reducible assumption) | assumption)
                                obtain ⟨ad294, e294, hx294_0⟩ := Kd.at_int HR1.out 1 p294 q294
                                cases e294
                                (try simp only [show (1 : Int).toNat = 1 from rfl, Nat.reduceMul, Nat.reduceEqDiff, Go.Addr.add, ↓reduceIte] at hx294_0)
                                have qi294 : (1 < l1.length) = True := eq_true (by omega)
                                (try rw [show ((1 : Int)).toNat = 1 from rfl] at hx294_0)
                                replace p294 := eq_true p294
                                replace q294 := eq_true q294
                                go_enter Tryd.func23, Tryd.ntmps23
                                try go_wp2
                                have n0_ := Aside0.mk (below_drew1 HB.out)
                                clear HB
                                have HB := n0_
                                clear n0_
                                have p295 : 0 ≤ (0 : Int) := (by omega)
                                have q295 : 0 < (l1.length : Int) := of_decide_eq_true (by first | (with_reducible assumption) | assumption)
                                obtain ⟨ad295, e295, hx295_0⟩ := Kd.at_int HR1.out 0 p295 q295
                                have hw295_0 := hx295_0
                                (try rw [show ((0 : Int)).toNat = 0 from rfl] at hw295_0)
                                (try rw [show 0 * 1 = 0 from rfl] at hw295_0)
                                (try rw [Addr.add_zero'] at hw295_0)
                                obtain rfl : ad294 = ad295 := (by injection e295)
                                have qi295 : (0 < l1.length) = True := eq_true (by omega)
                                (try rw [show ((0 : Int)).toNat = 0 from rfl] at hx295_0)
                                (try rw [Addr.add_zero'] at hx295_0)
                                replace hx295_0 := (HB.out.cell (World.block_lt_of_cell? w _ hx295_0)).trans hx295_0
                                replace p295 := eq_true p295
                                replace q295 := eq_true q295
                                have p297 : 0 ≤ (1 : Int) := (by omega)
                                have q297 : 1 < (l1.length : Int) := of_decide_eq_true (by first | (with_reducible assumption) | assumption)
                                obtain ⟨ad297, e297, hx297_0⟩ := Kd.at_int HR1.out 1 p297 q297
                                have hw297_0 := hx297_0
                                (try rw [show ((1 : Int)).toNat = 1 from rfl] at hw297_0)
                                (try rw [show 1 * 1 = 1 from rfl] at hw297_0)
                                (try simp only [Nat.reduceMul, Nat.reduceEqDiff, Go.Addr.add, ↓reduceIte] at hw297_0)
                                obtain rfl : ad294 = ad297 := (by injection e297)
                                (try simp only [show (1 : Int).toNat = 1 from rfl, Nat.reduceMul, Nat.reduceEqDiff, Go.Addr.add, ↓reduceIte] at hx297_0)
                                have qi297 : (1 < l1.length) = True := eq_true (by omega)
                                (try rw [show ((1 : Int)).toNat = 1 from rfl] at hx297_0)
                                replace hx297_0 := (HB.out.cell (World.block_lt_of_cell? w _ hx297_0)).trans hx297_0
                                replace p297 := eq_true p297
                                replace q297 := eq_true q297
                                refine start_ (n := 13) (S := fun w' => w'.cell? ad294 = some (.int .i64 (rd l1 0)) ∧ w'.cell? ⟨ad294.block, ad294.off + 1, none⟩ = some (.int .i64 (rd l1 1))) (ds := []) #[false, false, false, false, false, false, false, false, false, false, false, false, false] (by kernel_rfl) rfl rfl ⟨((HB.out.cell (World.block_lt_of_cell? w _ hw295_0)).trans hw295_0), ((HB.out.cell (World.block_lt_of_cell? w _ hw297_0)).trans hw297_0)⟩ (fun hHeld => ?_); refine with_tabW spec_MadeList.tab31 spec_MadeList.bits31 (fun HT_ HW_ => ?_)
                                generalize w.drew = w69 at HB hx295_0 hx297_0 hHeld ⊢
                                refine pure_ (i := 0) (N := some 101) (v := ?_) (a' := ?_) #[true, false, false, false, false, false, false, false, false, false, false, false, false] rfl rfl (any_of HT_.out (by kernel_rfl)) (fun _ _ _ h => h) (Or.inl ⟨by rfl, ?_⟩) ?_ ?_
                                rotate_left
                                · intro w'
                                  go_simp
                                  with_reducible rfl
                                rotate_left
                                · simp only [Act.put, List.setIfInBounds_toArray, List.set_cons_zero, List.set_cons_succ, i64_w, i32_w]
                                  rfl
                                refine pure_ (i := 1) (N := some 102) (v := ?_) (a' := ?_) #[true, true, false, false, false, false, false, false, false, false, false, false, false] rfl rfl (any_of HT_.out (by kernel_rfl)) (fun _ _ _ h => h) (Or.inl ⟨by rfl, ?_⟩) ?_ ?_
                                rotate_left
                                · intro w'
                                  go_simp
                                  with_reducible rfl
                                rotate_left
                                · simp only [Act.put, List.setIfInBounds_toArray, List.set_cons_zero, List.set_cons_succ, i64_w, i32_w]
                                  rfl
                                refine pure_ (i := 6) (N := some 107) (v := ?_) (a' := ?_) #[true, true, false, false, false, false, true, false, false, false, false, false, false] rfl rfl (any_of HT_.out (by kernel_rfl)) (fun _ _ _ h => h) (Or.inl ⟨by rfl, ?_⟩) ?_ ?_
                                rotate_left
                                · intro w'
                                  go_simp
                                  with_reducible rfl
                                rotate_left
                                · simp only [Act.put, List.setIfInBounds_toArray, List.set_cons_zero, List.set_cons_succ, i64_w, i32_w]
                                  rfl
                                refine pure_ (i := 7) (N := some 108) (v := ?_) (a' := ?_) #[true, true, false, false, false, false, true, true, false, false, false, false, false] rfl rfl (any_of HT_.out (by kernel_rfl)) (fun _ _ _ h => h) (Or.inl ⟨by rfl, ?_⟩) ?_ ?_
                                rotate_left
                                · intro w'
                                  go_simp
                                  with_reducible rfl
                                rotate_left
                                · simp only [Act.put, List.setIfInBounds_toArray, List.set_cons_zero, List.set_cons_succ, i64_w, i32_w]
                                  rfl
                                refine take_ (i := 2) (N := some 103) (v := ?_) (a' := ?_) #[true, true, true, false, false, false, true, true, false, false, false, false, false] rfl rfl (take_ofW HT_.out HW_.out (by kernel_rfl)) (fun _ _ _ h => h) (Or.inl ⟨by rfl, ?_⟩) hHeld ?_ ?_
                                rotate_left
                                · rintro w' ⟨s0, s1⟩
                                  go_simp
                                  with_reducible rfl
                                rotate_left
                                · simp only [Act.put, List.setIfInBounds_toArray, List.set_cons_zero, List.set_cons_succ, i64_w, i32_w]
                                  rfl
                                refine take_ (i := 8) (N := some 109) (v := ?_) (a' := ?_) #[true, true, true, false, false, false, true, true, true, false, false, false, false] rfl rfl (take_ofW HT_.out HW_.out (by kernel_rfl)) (fun _ _ _ h => h) (Or.inl ⟨by rfl, ?_⟩) hHeld ?_ ?_
                                rotate_left
                                · rintro w' ⟨s0, s1⟩
                                  go_simp
                                  with_reducible rfl
                                rotate_left
                                · simp only [Act.put, List.setIfInBounds_toArray, List.set_cons_zero, List.set_cons_succ, i64_w, i32_w]
                                  rfl
                                refine one_ (i := 3) (N := some 104) #[true, true, true, true, false, false, true, true, true, false, false, false, false] rfl rfl (one_of HT_.out (by kernel_rfl)) (by decide) (fun K hK => ?_)
                                refine goes_ Tryd.func72 (by kernel_rfl) rfl #[.int .i64 (rd l1 0), .int .i64 0] (by rfl) rfl rfl (by (try simp only [List.map_toArray, List.map_cons, List.map_nil]); first | done | rfl | (simp only [List.length_drop, List.length_take]; rfl) | (simp [Act.eval, *]; done)) ?_
                                with_reducible refine (spec_madeAbove.calls k (rd l1 0) 0 t296 _ A63.out).mono ?_
                                rintro e w70 ⟨rfl, hb⟩
                                refine ⟨_, rfl, ?_⟩
                                have n0_ := Aside0.mk (below_step (by repeat (first | (with_reducible first | exact HB.out | apply below_alloc | apply Ext.below_bytes | apply pw_below_drewN | apply below_drew1) | exact HB.out)) hb)
                                clear HB
                                have HB := n0_
                                clear n0_
                                (try clear hb)
                                (try clear hb2)
                                (try clear hk)
                                (try clear hi)
                                refine hK.out _ _ ⟨((HB.out.cell (World.block_lt_of_cell? w _ hw295_0)).trans hw295_0), ((HB.out.cell (World.block_lt_of_cell? w _ hw297_0)).trans hw297_0)⟩ (fun hHeld => ?_)
                                clear hK K
                                refine norm_ (a' := ?_) ?_ ?_
                                rotate_left
                                · show Act.put _ (some 104) _ = _
                                  simp only [Act.put, List.setIfInBounds_toArray, List.set_cons_zero, List.set_cons_succ, i64_w, i32_w]
                                  rfl
                                refine pure_ (i := 4) (N := some 105) (v := ?_) (a' := ?_) #[true, true, true, true, true, false, true, true, true, false, false, false, false] rfl rfl (any_of HT_.out (by kernel_rfl)) (fun _ _ _ h => h) (Or.inl ⟨by rfl, ?_⟩) ?_ ?_
                                rotate_left
                                · intro w'
                                  go_simp
                                  with_reducible rfl
                                rotate_left
                                · simp only [Act.put, List.setIfInBounds_toArray, List.set_cons_zero, List.set_cons_succ, i64_w, i32_w]
                                  rfl
                                refine pure_ (i := 5) (N := some 106) (v := ?_) (a' := ?_) #[true, true, true, true, true, true, true, true, true, false, false, false, false] rfl rfl (any_of HT_.out (by kernel_rfl)) (fun _ _ _ h => h) (Or.inl ⟨by rfl, ?_⟩) ?_ ?_
                                rotate_left
                                · intro w'
                                  go_simp
                                  with_reducible rfl
                                rotate_left
                                · simp only [Act.put, List.setIfInBounds_toArray, List.set_cons_zero, List.set_cons_succ, i64_w, i32_w]
                                  rfl
                                refine one_ (i := 9) (N := some 110) #[true, true, true, true, true, true, true, true, true, true, false, false, false] rfl rfl (one_of HT_.out (by kernel_rfl)) (by decide) (fun K hK => ?_)
                                refine goes_ Tryd.func71 (by kernel_rfl) rfl #[.int .i64 (rd l1 1)] (by rfl) rfl rfl (by (try simp only [List.map_toArray, List.map_cons, List.map_nil]); first | done | rfl | (simp only [List.length_drop, List.length_take]; rfl) | (simp [Act.eval, *]; done)) ?_
                                with_reducible refine (spec_Digits.calls k (rd l1 1) t298 _ A66.out).mono ?_
                                rintro e w71 ⟨rfl, hb⟩
                                refine ⟨_, rfl, ?_⟩
                                have n0_ := Aside0.mk (below_step (by repeat (first | (with_reducible first | exact HB.out | apply below_alloc | apply Ext.below_bytes | apply pw_below_drewN | apply below_drew1) | exact HB.out)) hb)
                                clear HB
                                have HB := n0_
                                clear n0_
                                (try clear hb)
                                (try clear hb2)
                                (try clear hk)
                                (try clear hi)
                                refine hK.out _ _ ⟨((HB.out.cell (World.block_lt_of_cell? w _ hw295_0)).trans hw295_0), ((HB.out.cell (World.block_lt_of_cell? w _ hw297_0)).trans hw297_0)⟩ (fun hHeld => ?_)
                                clear hK K
                                refine norm_ (a' := ?_) ?_ ?_
                                rotate_left
                                · show Act.put _ (some 110) _ = _
                                  simp only [Act.put, List.setIfInBounds_toArray, List.set_cons_zero, List.set_cons_succ, i64_w, i32_w]
                                  rfl
                                refine pure_ (i := 10) (N := some 111) (v := ?_) (a' := ?_) #[true, true, true, true, true, true, true, true, true, true, true, false, false] rfl rfl (any_of HT_.out (by kernel_rfl)) (fun _ _ _ h => h) (Or.inl ⟨by rfl, ?_⟩) ?_ ?_
                                rotate_left
                                · intro w'
                                  go_simp
                                  with_reducible rfl
                                rotate_left
                                · simp only [Act.put, List.setIfInBounds_toArray, List.set_cons_zero, List.set_cons_succ, i64_w, i32_w]
                                  rfl
                                refine pure_ (i := 11) (N := some 112) (v := ?_) (a' := ?_) #[true, true, true, true, true, true, true, true, true, true, true, true, false] rfl rfl (any_of HT_.out (by kernel_rfl)) (fun _ _ _ h => h) (Or.inl ⟨by rfl, ?_⟩) ?_ ?_
                                rotate_left
                                · intro w'
                                  go_simp
                                  with_reducible rfl
                                rotate_left
                                · simp only [Act.put, List.setIfInBounds_toArray, List.set_cons_zero, List.set_cons_succ, i64_w, i32_w]
                                  rfl
                                refine pure_ (i := 12) (N := some 4) (v := ?_) (a' := ?_) #[true, true, true, true, true, true, true, true, true, true, true, true, true] rfl rfl (any_of HT_.out (by kernel_rfl)) (fun _ _ _ h => h) (Or.inl ⟨by rfl, ?_⟩) ?_ ?_
                                rotate_left
                                · intro w'
                                  go_simp
                                  with_reducible rfl
                                rotate_left
                                · simp only [Act.put, List.setIfInBounds_toArray, List.set_cons_zero, List.set_cons_succ, i64_w, i32_w]
                                  rfl
                                refine done_ (done_of HT_.out (by kernel_rfl)) ?_
                                try go_wp2
                                go_ret
                                exact ⟨by first | rfl | (simp [errW_none, errW_some] <;> rfl) | (simp [*, errW_none, errW_some] <;> rfl), by repeat (first | (with_reducible first | exact HB.out | apply below_alloc | apply Ext.below_bytes | apply pw_below_drewN | apply below_drew1) | exact HB.out)⟩
                              · rw [if_neg c68] at H
                                exact absurd H (by simp)
                            · rw [if_neg c67] at H
                              exact absurd H (by simp)
                          · rw [if_neg c65] at H
                            exact absurd H (by simp)
                        · rw [if_neg c64] at H
                          exact absurd H (by simp)
                      · rw [if_neg c62] at H
                        exact absurd H (by simp)
                    · rw [if_neg c61] at H
                      have c61b0 : decide (0 < (rd l1 1)) = false := decide_eq_false c61
                      clear c61
                      by_cases c72 : 0 < (l1.length : Int)
                      · rw [if_pos c72] at H
                        have c72b0 : decide (0 < (l1.length : Int)) = true := decide_eq_true c72
                        have c72b1 : decide (0 < l1.length) = true := decide_eq_true (by omega)
                        clear c72
                        replace H := Option.bind_eq_some_iff.mp H
                        obtain ⟨t300, A730, H⟩ := H
                        replace H : (if 3 + t300.size ≤ 9223372036854775807 then (if 3 + t300.size + 1 ≤ 9223372036854775807 then (some (((⟨#[27, 91, 62]⟩ : ByteArray) ++ t300) ++ (⟨#[109]⟩ : ByteArray))) else (none)) else (none)) = some r := H
                        have A73 := Aside0.mk A730
                        clear A730
                        by_cases c74 : 3 + t300.size ≤ 9223372036854775807
                        · rw [if_pos c74] at H
                          have c74b0 := eq_true c74
                          have c74b1 : decide (3 + t300.size ≤ 9223372036854775807) = true := decide_eq_true c74
                          try have c74b2 : (9223372036854775807 < 3 + t300.size) = False := eq_false (Nat.not_lt.2 c74)
                          by_cases c75 : 3 + t300.size + 1 ≤ 9223372036854775807
                          · rw [if_pos c75] at H
                            have c75b0 := eq_true c75
                            have c75b1 : decide (3 + t300.size + 1 ≤ 9223372036854775807) = true := decide_eq_true c75
                            try have c75b2 : (9223372036854775807 < 3 + t300.size + 1) = False := eq_false (Nat.not_lt.2 c75)
                            obtain rfl := Option.some.inj H
                            have p294 : 0 ≤ (1 : Int) := (by omega)
                            have q294 : 1 < (l1.length : Int) := of_decide_eq_true (by first | (with_reducible assumption) | assumption)
                            obtain ⟨ad294, e294, hx294_0⟩ := Kd.at_int HR1.out 1 p294 q294
                            cases e294
                            (try simp only [show (1 : Int).toNat = 1 from rfl, Nat.reduceMul, Nat.reduceEqDiff, Go.Addr.add, ↓reduceIte] at hx294_0)
                            have qi294 : (1 < l1.length) = True := eq_true (by omega)
                            (try rw [show ((1 : Int)).toNat = 1 from rfl] at hx294_0)
                            replace p294 := eq_true p294
                            replace q294 := eq_true q294
                            have p299 : 0 ≤ (0 : Int) := (by omega)
                            have q299 : 0 < (l1.length : Int) := of_decide_eq_true (by first | (with_reducible assumption) | assumption)
                            obtain ⟨ad299, e299, hx299_0⟩ := Kd.at_int HR1.out 0 p299 q299
                            obtain rfl : ad294 = ad299 := (by injection e299)
                            have qi299 : (0 < l1.length) = True := eq_true (by omega)
                            (try rw [show ((0 : Int)).toNat = 0 from rfl] at hx299_0)
                            (try rw [Addr.add_zero'] at hx299_0)
                            replace p299 := eq_true p299
                            replace q299 := eq_true q299
                            go_enter Tryd.func23, Tryd.ntmps23
                            go_wp2_with (first | ((with_reducible refine gate_callee (f := 72) rfl ?_); refine goesL_ (some 116) rfl rfl Tryd.func72 (by kernel_rfl) rfl #[.int .i64 (rd l1 0), .int .i64 0] rfl (by (try simp only [List.map_toArray, List.map_cons, List.map_nil]); first | done | rfl | (simp only [List.length_drop, List.length_take]; rfl) | (simp [Act.eval, *]; done)) ?_; (with_reducible refine (spec_madeAbove.calls k (rd l1 0) 0 t300 _ A73.out).mono ?_); rintro e w76 ⟨rfl, hb⟩; refine ⟨_, rfl, ?_⟩; have n0_ := Aside0.mk (below_step (by repeat (first | (with_reducible first | exact HB.out | apply below_alloc | apply Ext.below_bytes | apply pw_below_drewN | apply below_drew1) | exact HB.out)) hb); clear HB; have HB := n0_; clear n0_; (try clear hb); (try clear hb2); (try clear hk); (try clear hi)))
                            go_ret
                            exact ⟨by first | rfl | (simp [errW_none, errW_some] <;> rfl) | (simp [*, errW_none, errW_some] <;> rfl), by repeat (first | (with_reducible first | exact HB.out | apply below_alloc | apply Ext.below_bytes | apply pw_below_drewN | apply below_drew1) | exact HB.out)⟩
                          · rw [if_neg c75] at H
                            exact absurd H (by simp)
                        · rw [if_neg c74] at H
                          exact absurd H (by simp)
                      · rw [if_neg c72] at H
                        exact absurd H (by simp)
                  · rw [if_neg c60] at H
                    exact absurd H (by simp)
              · rw [if_neg c53] at H
                have c53b0 : (a0 == 6) = false := beq_eq_false_iff_ne.mpr c53
                have c53b1 : (a0 != 6) = true := bne_iff_ne.mpr c53
                by_cases c77 : a0 = 7
                · rw [if_pos c77] at H
                  have c77b0 : (a0 == 7) = true := beq_iff_eq.mpr c77
                  have c77b1 : (a0 != 7) = false := bne_eq_false_iff_eq.mpr c77
                  clear c77
                  by_cases c78 : (l1.length : Int) = 3
                  · rw [if_pos c78] at H
                    have c78b0 : ((l1.length : Int) == 3) = true := beq_iff_eq.mpr c78
                    have c78b1 : ((l1.length : Int) != 3) = false := bne_eq_false_iff_eq.mpr c78
                    clear c78
                    by_cases c79 : 0 < (l1.length : Int)
                    · rw [if_pos c79] at H
                      have c79b0 : decide (0 < (l1.length : Int)) = true := decide_eq_true c79
                      have c79b1 : decide (0 < l1.length) = true := decide_eq_true (by omega)
                      clear c79
                      obtain ⟨ji80, hji80⟩ : ∃ j_ : Int, (mx (rd l1 0) 1) = j_ := ⟨_, rfl⟩
                      replace H : ((spec_Digits.f k (ji80)).bind fun t302 => (if 3 + t302.size ≤ 9223372036854775807 then (if 3 + t302.size + 1 ≤ 9223372036854775807 then (if 1 < (l1.length : Int) then ((spec_Digits.f k (mx (rd l1 1) 1)).bind fun t304 => (if 3 + t302.size + 1 + t304.size ≤ 9223372036854775807 then (if 2 < (l1.length : Int) then (if (rd l1 2) > 0 then ((spec_Digits.f k (rd l1 2)).bind fun t307 => (if 1 + t307.size ≤ 9223372036854775807 then (if 3 + t302.size + 1 + t304.size + (1 + t307.size) ≤ 9223372036854775807 then (if 3 + t302.size + 1 + t304.size + (1 + t307.size) + 1 ≤ 9223372036854775807 then (some ((((((⟨#[27, 91, 63]⟩ : ByteArray) ++ t302) ++ (⟨#[59]⟩ : ByteArray)) ++ t304) ++ ((⟨#[59]⟩ : ByteArray) ++ t307)) ++ (⟨#[82]⟩ : ByteArray))) else (none)) else (none)) else (none))) else (if 3 + t302.size + 1 + t304.size + 1 ≤ 9223372036854775807 then (some (((((⟨#[27, 91, 63]⟩ : ByteArray) ++ t302) ++ (⟨#[59]⟩ : ByteArray)) ++ t304) ++ (⟨#[82]⟩ : ByteArray))) else (none))) else (none)) else (none))) else (none)) else (none)) else (none))) = some r := by first | (rw [hji80] at H; exact H) | (simp only [hji80] at H ⊢; exact H)
                      (try (have hji80l : 1 ≤ ji80 := by (rw [← hji80]; unfold mx; (repeat' split) <;> omega)))
                      (try (have hji80m : 0 ≤ ji80 := by omega))
                      have hji80_ : (if (rd l1 0) < 1 then 1 else (rd l1 0)) = ji80 := hji80
                      replace H := Option.bind_eq_some_iff.mp H
                      obtain ⟨t302, A810, H⟩ := H
                      replace H : (if 3 + t302.size ≤ 9223372036854775807 then (if 3 + t302.size + 1 ≤ 9223372036854775807 then (if 1 < (l1.length : Int) then ((spec_Digits.f k (mx (rd l1 1) 1)).bind fun t304 => (if 3 + t302.size + 1 + t304.size ≤ 9223372036854775807 then (if 2 < (l1.length : Int) then (if (rd l1 2) > 0 then ((spec_Digits.f k (rd l1 2)).bind fun t307 => (if 1 + t307.size ≤ 9223372036854775807 then (if 3 + t302.size + 1 + t304.size + (1 + t307.size) ≤ 9223372036854775807 then (if 3 + t302.size + 1 + t304.size + (1 + t307.size) + 1 ≤ 9223372036854775807 then (some ((((((⟨#[27, 91, 63]⟩ : ByteArray) ++ t302) ++ (⟨#[59]⟩ : ByteArray)) ++ t304) ++ ((⟨#[59]⟩ : ByteArray) ++ t307)) ++ (⟨#[82]⟩ : ByteArray))) else (none)) else (none)) else (none))) else (if 3 + t302.size + 1 + t304.size + 1 ≤ 9223372036854775807 then (some (((((⟨#[27, 91, 63]⟩ : ByteArray) ++ t302) ++ (⟨#[59]⟩ : ByteArray)) ++ t304) ++ (⟨#[82]⟩ : ByteArray))) else (none))) else (none)) else (none))) else (none)) else (none)) else (none)) = some r := H
                      have A81 := Aside0.mk A810
                      clear A810
                      by_cases c82 : 3 + t302.size ≤ 9223372036854775807
                      · rw [if_pos c82] at H
                        have c82b0 := eq_true c82
                        have c82b1 : decide (3 + t302.size ≤ 9223372036854775807) = true := decide_eq_true c82
                        try have c82b2 : (9223372036854775807 < 3 + t302.size) = False := eq_false (Nat.not_lt.2 c82)
                        by_cases c83 : 3 + t302.size + 1 ≤ 9223372036854775807
                        · rw [if_pos c83] at H
                          have c83b0 := eq_true c83
                          have c83b1 : decide (3 + t302.size + 1 ≤ 9223372036854775807) = true := decide_eq_true c83
                          try have c83b2 : (9223372036854775807 < 3 + t302.size + 1) = False := eq_false (Nat.not_lt.2 c83)
                          by_cases c84 : 1 < (l1.length : Int)
                          · rw [if_pos c84] at H
                            have c84b0 : decide (1 < (l1.length : Int)) = true := decide_eq_true c84
                            have c84b1 : decide (1 < l1.length) = true := decide_eq_true (by omega)
                            clear c84
                            obtain ⟨ji85, hji85⟩ : ∃ j_ : Int, (mx (rd l1 1) 1) = j_ := ⟨_, rfl⟩
                            replace H : ((spec_Digits.f k (ji85)).bind fun t304 => (if 3 + t302.size + 1 + t304.size ≤ 9223372036854775807 then (if 2 < (l1.length : Int) then (if (rd l1 2) > 0 then ((spec_Digits.f k (rd l1 2)).bind fun t307 => (if 1 + t307.size ≤ 9223372036854775807 then (if 3 + t302.size + 1 + t304.size + (1 + t307.size) ≤ 9223372036854775807 then (if 3 + t302.size + 1 + t304.size + (1 + t307.size) + 1 ≤ 9223372036854775807 then (some ((((((⟨#[27, 91, 63]⟩ : ByteArray) ++ t302) ++ (⟨#[59]⟩ : ByteArray)) ++ t304) ++ ((⟨#[59]⟩ : ByteArray) ++ t307)) ++ (⟨#[82]⟩ : ByteArray))) else (none)) else (none)) else (none))) else (if 3 + t302.size + 1 + t304.size + 1 ≤ 9223372036854775807 then (some (((((⟨#[27, 91, 63]⟩ : ByteArray) ++ t302) ++ (⟨#[59]⟩ : ByteArray)) ++ t304) ++ (⟨#[82]⟩ : ByteArray))) else (none))) else (none)) else (none))) = some r := by first | (rw [hji85] at H; exact H) | (simp only [hji85] at H ⊢; exact H)
                            (try rw [hji85] at A81)
                            (try (have hji85l : 1 ≤ ji85 := by (rw [← hji85]; unfold mx; (repeat' split) <;> omega)))
                            (try (have hji85m : 0 ≤ ji85 := by omega))
                            have hji85_ : (if (rd l1 1) < 1 then 1 else (rd l1 1)) = ji85 := hji85
                            replace H := Option.bind_eq_some_iff.mp H
                            obtain ⟨t304, A860, H⟩ := H
                            replace H : (if 3 + t302.size + 1 + t304.size ≤ 9223372036854775807 then (if 2 < (l1.length : Int) then (if (rd l1 2) > 0 then ((spec_Digits.f k (rd l1 2)).bind fun t307 => (if 1 + t307.size ≤ 9223372036854775807 then (if 3 + t302.size + 1 + t304.size + (1 + t307.size) ≤ 9223372036854775807 then (if 3 + t302.size + 1 + t304.size + (1 + t307.size) + 1 ≤ 9223372036854775807 then (some ((((((⟨#[27, 91, 63]⟩ : ByteArray) ++ t302) ++ (⟨#[59]⟩ : ByteArray)) ++ t304) ++ ((⟨#[59]⟩ : ByteArray) ++ t307)) ++ (⟨#[82]⟩ : ByteArray))) else (none)) else (none)) else (none))) else (if 3 + t302.size + 1 + t304.size + 1 ≤ 9223372036854775807 then (some (((((⟨#[27, 91, 63]⟩ : ByteArray) ++ t302) ++ (⟨#[59]⟩ : ByteArray)) ++ t304) ++ (⟨#[82]⟩ : ByteArray))) else (none))) else (none)) else (none)) = some r := H
                            have A86 := Aside0.mk A860
                            clear A860
                            by_cases c87 : 3 + t302.size + 1 + t304.size ≤ 9223372036854775807
                            · rw [if_pos c87] at H
                              have c87b0 := eq_true c87
                              have c87b1 : decide (3 + t302.size + 1 + t304.size ≤ 9223372036854775807) = true := decide_eq_true c87
                              try have c87b2 : (9223372036854775807 < 3 + t302.size + 1 + t304.size) = False := eq_false (Nat.not_lt.2 c87)
                              by_cases c88 : 2 < (l1.length : Int)
                              · rw [if_pos c88] at H
                                have c88b0 : decide (2 < (l1.length : Int)) = true := decide_eq_true c88
                                have c88b1 : decide (2 < l1.length) = true := decide_eq_true (by omega)
                                clear c88
                                by_cases c89 : (rd l1 2) > 0
                                · rw [if_pos c89] at H
                                  have c89b0 : decide (0 < (rd l1 2)) = true := decide_eq_true c89
                                  clear c89
                                  replace H := Option.bind_eq_some_iff.mp H
                                  obtain ⟨t307, A900, H⟩ := H
                                  replace H : (if 1 + t307.size ≤ 9223372036854775807 then (if 3 + t302.size + 1 + t304.size + (1 + t307.size) ≤ 9223372036854775807 then (if 3 + t302.size + 1 + t304.size + (1 + t307.size) + 1 ≤ 9223372036854775807 then (some ((((((⟨#[27, 91, 63]⟩ : ByteArray) ++ t302) ++ (⟨#[59]⟩ : ByteArray)) ++ t304) ++ ((⟨#[59]⟩ : ByteArray) ++ t307)) ++ (⟨#[82]⟩ : ByteArray))) else (none)) else (none)) else (none)) = some r := H
                                  have A90 := Aside0.mk A900
                                  clear A900
                                  by_cases c91 : 1 + t307.size ≤ 9223372036854775807
                                  · rw [if_pos c91] at H
                                    have c91b0 := eq_true c91
                                    have c91b1 : decide (1 + t307.size ≤ 9223372036854775807) = true := decide_eq_true c91
                                    try have c91b2 : (9223372036854775807 < 1 + t307.size) = False := eq_false (Nat.not_lt.2 c91)
                                    by_cases c92 : 3 + t302.size + 1 + t304.size + (1 + t307.size) ≤ 9223372036854775807
                                    · rw [if_pos c92] at H
                                      have c92b0 := eq_true c92
                                      have c92b1 : decide (3 + t302.size + 1 + t304.size + (1 + t307.size) ≤ 9223372036854775807) = true := decide_eq_true c92
                                      try have c92b2 : (9223372036854775807 < 3 + t302.size + 1 + t304.size + (1 + t307.size)) = False := eq_false (Nat.not_lt.2 c92)
                                      by_cases c93 : 3 + t302.size + 1 + t304.size + (1 + t307.size) + 1 ≤ 9223372036854775807
                                      · rw [if_pos c93] at H
                                        have c93b0 := eq_true c93
                                        have c93b1 : decide (3 + t302.size + 1 + t304.size + (1 + t307.size) + 1 ≤ 9223372036854775807) = true := decide_eq_true c93
                                        try have c93b2 : (9223372036854775807 < 3 + t302.size + 1 + t304.size + (1 + t307.size) + 1) = False := eq_false (Nat.not_lt.2 c93)
                                        obtain rfl := Option.some.inj H
                                        go_enter Tryd.func23, Tryd.ntmps23
                                        try go_wp2
                                        have n0_ := Aside0.mk (below_drew1 HB.out)
                                        clear HB
                                        have HB := n0_
                                        clear n0_
                                        have p301 : 0 ≤ (0 : Int) := (by omega)
                                        have q301 : 0 < (l1.length : Int) := of_decide_eq_true (by first | (with_reducible assumption) | assumption)
                                        obtain ⟨ad301, e301, hx301_0⟩ := Kd.at_int HR1.out 0 p301 q301
                                        have hw301_0 := hx301_0
                                        (try rw [show ((0 : Int)).toNat = 0 from rfl] at hw301_0)
                                        (try rw [show 0 * 1 = 0 from rfl] at hw301_0)
                                        (try rw [Addr.add_zero'] at hw301_0)
                                        cases e301
                                        have qi301 : (0 < l1.length) = True := eq_true (by omega)
                                        (try rw [show ((0 : Int)).toNat = 0 from rfl] at hx301_0)
                                        (try rw [Addr.add_zero'] at hx301_0)
                                        replace hx301_0 := (HB.out.cell (World.block_lt_of_cell? w _ hx301_0)).trans hx301_0
                                        replace p301 := eq_true p301
                                        replace q301 := eq_true q301
                                        have p303 : 0 ≤ (1 : Int) := (by omega)
                                        have q303 : 1 < (l1.length : Int) := of_decide_eq_true (by first | (with_reducible assumption) | assumption)
                                        obtain ⟨ad303, e303, hx303_0⟩ := Kd.at_int HR1.out 1 p303 q303
                                        have hw303_0 := hx303_0
                                        (try rw [show ((1 : Int)).toNat = 1 from rfl] at hw303_0)
                                        (try rw [show 1 * 1 = 1 from rfl] at hw303_0)
                                        (try simp only [Nat.reduceMul, Nat.reduceEqDiff, Go.Addr.add, ↓reduceIte] at hw303_0)
                                        obtain rfl : ad301 = ad303 := (by injection e303)
                                        (try simp only [show (1 : Int).toNat = 1 from rfl, Nat.reduceMul, Nat.reduceEqDiff, Go.Addr.add, ↓reduceIte] at hx303_0)
                                        have qi303 : (1 < l1.length) = True := eq_true (by omega)
                                        (try rw [show ((1 : Int)).toNat = 1 from rfl] at hx303_0)
                                        replace hx303_0 := (HB.out.cell (World.block_lt_of_cell? w _ hx303_0)).trans hx303_0
                                        replace p303 := eq_true p303
                                        replace q303 := eq_true q303
                                        refine start_ (n := 14) (S := fun w' => w'.cell? ad301 = some (.int .i64 (rd l1 0)) ∧ w'.cell? ⟨ad301.block, ad301.off + 1, none⟩ = some (.int .i64 (rd l1 1))) (ds := []) #[false, false, false, false, false, false, false, false, false, false, false, false, false, false] (by kernel_rfl) rfl rfl ⟨((HB.out.cell (World.block_lt_of_cell? w _ hw301_0)).trans hw301_0), ((HB.out.cell (World.block_lt_of_cell? w _ hw303_0)).trans hw303_0)⟩ (fun hHeld => ?_); refine with_tabW spec_MadeList.tab36 spec_MadeList.bits36 (fun HT_ HW_ => ?_)
                                        generalize w.drew = w94 at HB hx301_0 hx303_0 hHeld ⊢
                                        refine pure_ (i := 0) (N := some 124) (v := ?_) (a' := ?_) #[true, false, false, false, false, false, false, false, false, false, false, false, false, false] rfl rfl (any_of HT_.out (by kernel_rfl)) (fun _ _ _ h => h) (Or.inl ⟨by rfl, ?_⟩) ?_ ?_
                                        rotate_left
                                        · intro w'
                                          go_simp
                                          with_reducible rfl
                                        rotate_left
                                        · simp only [Act.put, List.setIfInBounds_toArray, List.set_cons_zero, List.set_cons_succ, i64_w, i32_w]
                                          rfl
                                        refine pure_ (i := 1) (N := some 125) (v := ?_) (a' := ?_) #[true, true, false, false, false, false, false, false, false, false, false, false, false, false] rfl rfl (any_of HT_.out (by kernel_rfl)) (fun _ _ _ h => h) (Or.inl ⟨by rfl, ?_⟩) ?_ ?_
                                        rotate_left
                                        · intro w'
                                          go_simp
                                          with_reducible rfl
                                        rotate_left
                                        · simp only [Act.put, List.setIfInBounds_toArray, List.set_cons_zero, List.set_cons_succ, i64_w, i32_w]
                                          rfl
                                        refine pure_ (i := 7) (N := some 131) (v := ?_) (a' := ?_) #[true, true, false, false, false, false, false, true, false, false, false, false, false, false] rfl rfl (any_of HT_.out (by kernel_rfl)) (fun _ _ _ h => h) (Or.inl ⟨by rfl, ?_⟩) ?_ ?_
                                        rotate_left
                                        · intro w'
                                          go_simp
                                          with_reducible rfl
                                        rotate_left
                                        · simp only [Act.put, List.setIfInBounds_toArray, List.set_cons_zero, List.set_cons_succ, i64_w, i32_w]
                                          rfl
                                        refine pure_ (i := 8) (N := some 132) (v := ?_) (a' := ?_) #[true, true, false, false, false, false, false, true, true, false, false, false, false, false] rfl rfl (any_of HT_.out (by kernel_rfl)) (fun _ _ _ h => h) (Or.inl ⟨by rfl, ?_⟩) ?_ ?_
                                        rotate_left
                                        · intro w'
                                          go_simp
                                          with_reducible rfl
                                        rotate_left
                                        · simp only [Act.put, List.setIfInBounds_toArray, List.set_cons_zero, List.set_cons_succ, i64_w, i32_w]
                                          rfl
                                        refine take_ (i := 2) (N := some 126) (v := ?_) (a' := ?_) #[true, true, true, false, false, false, false, true, true, false, false, false, false, false] rfl rfl (take_ofW HT_.out HW_.out (by kernel_rfl)) (fun _ _ _ h => h) (Or.inl ⟨by rfl, ?_⟩) hHeld ?_ ?_
                                        rotate_left
                                        · rintro w' ⟨s0, s1⟩
                                          go_simp
                                          with_reducible rfl
                                        rotate_left
                                        · simp only [Act.put, List.setIfInBounds_toArray, List.set_cons_zero, List.set_cons_succ, i64_w, i32_w]
                                          rfl
                                        refine pure_ (i := 3) (N := some 127) (v := ?_) (a' := ?_) #[true, true, true, true, false, false, false, true, true, false, false, false, false, false] rfl rfl (any_of HT_.out (by kernel_rfl)) (fun _ _ _ h => h) (Or.inl ⟨by rfl, ?_⟩) ?_ ?_
                                        rotate_left
                                        · intro w'
                                          go_simp
                                          with_reducible rfl
                                        rotate_left
                                        · simp only [Act.put, List.setIfInBounds_toArray, List.set_cons_zero, List.set_cons_succ, i64_w, i32_w]
                                          rfl
                                        refine take_ (i := 9) (N := some 133) (v := ?_) (a' := ?_) #[true, true, true, true, false, false, false, true, true, true, false, false, false, false] rfl rfl (take_ofW HT_.out HW_.out (by kernel_rfl)) (fun _ _ _ h => h) (Or.inl ⟨by rfl, ?_⟩) hHeld ?_ ?_
                                        rotate_left
                                        · rintro w' ⟨s0, s1⟩
                                          go_simp
                                          with_reducible rfl
                                        rotate_left
                                        · simp only [Act.put, List.setIfInBounds_toArray, List.set_cons_zero, List.set_cons_succ, i64_w, i32_w]
                                          rfl
                                        refine pure_ (i := 10) (N := some 134) (v := ?_) (a' := ?_) #[true, true, true, true, false, false, false, true, true, true, true, false, false, false] rfl rfl (any_of HT_.out (by kernel_rfl)) (fun _ _ _ h => h) (Or.inl ⟨by rfl, ?_⟩) ?_ ?_
                                        rotate_left
                                        · intro w'
                                          go_simp
                                          with_reducible rfl
                                        rotate_left
                                        · simp only [Act.put, List.setIfInBounds_toArray, List.set_cons_zero, List.set_cons_succ, i64_w, i32_w]
                                          rfl
                                        refine one_ (i := 4) (N := some 128) #[true, true, true, true, true, false, false, true, true, true, true, false, false, false] rfl rfl (one_of HT_.out (by kernel_rfl)) (by decide) (fun K hK => ?_)
                                        refine goes_ Tryd.func71 (by kernel_rfl) rfl #[.int .i64 ji80] (by rfl) rfl rfl (by (try simp only [List.map_toArray, List.map_cons, List.map_nil]); first | done | (simp only [hji80]; rfl) | rfl | (simp only [List.length_drop, List.length_take]; rfl) | (simp [Act.eval, *]; done)) ?_
                                        with_reducible refine (spec_Digits.calls k ji80 t302 _ A81.out).mono ?_
                                        rintro e w95 ⟨rfl, hb⟩
                                        refine ⟨_, rfl, ?_⟩
                                        have n0_ := Aside0.mk (below_step (by repeat (first | (with_reducible first | exact HB.out | apply below_alloc | apply Ext.below_bytes | apply pw_below_drewN | apply below_drew1) | exact HB.out)) hb)
                                        clear HB
                                        have HB := n0_
                                        clear n0_
                                        (try clear hb)
                                        (try clear hb2)
                                        (try clear hk)
                                        (try clear hi)
                                        refine hK.out _ _ ⟨((HB.out.cell (World.block_lt_of_cell? w _ hw301_0)).trans hw301_0), ((HB.out.cell (World.block_lt_of_cell? w _ hw303_0)).trans hw303_0)⟩ (fun hHeld => ?_)
                                        clear hK K
                                        refine norm_ (a' := ?_) ?_ ?_
                                        rotate_left
                                        · show Act.put _ (some 128) _ = _
                                          simp only [Act.put, List.setIfInBounds_toArray, List.set_cons_zero, List.set_cons_succ, i64_w, i32_w]
                                          rfl
                                        refine pure_ (i := 5) (N := some 129) (v := ?_) (a' := ?_) #[true, true, true, true, true, true, false, true, true, true, true, false, false, false] rfl rfl (any_of HT_.out (by kernel_rfl)) (fun _ _ _ h => h) (Or.inl ⟨by rfl, ?_⟩) ?_ ?_
                                        rotate_left
                                        · intro w'
                                          go_simp
                                          with_reducible rfl
                                        rotate_left
                                        · simp only [Act.put, List.setIfInBounds_toArray, List.set_cons_zero, List.set_cons_succ, i64_w, i32_w]
                                          rfl
                                        refine pure_ (i := 6) (N := some 130) (v := ?_) (a' := ?_) #[true, true, true, true, true, true, true, true, true, true, true, false, false, false] rfl rfl (any_of HT_.out (by kernel_rfl)) (fun _ _ _ h => h) (Or.inl ⟨by rfl, ?_⟩) ?_ ?_
                                        rotate_left
                                        · intro w'
                                          go_simp
                                          with_reducible rfl
                                        rotate_left
                                        · simp only [Act.put, List.setIfInBounds_toArray, List.set_cons_zero, List.set_cons_succ, i64_w, i32_w]
                                          rfl
                                        refine one_ (i := 11) (N := some 135) #[true, true, true, true, true, true, true, true, true, true, true, true, false, false] rfl rfl (one_of HT_.out (by kernel_rfl)) (by decide) (fun K hK => ?_)
                                        refine goes_ Tryd.func71 (by kernel_rfl) rfl #[.int .i64 ji85] (by rfl) rfl rfl (by (try simp only [List.map_toArray, List.map_cons, List.map_nil]); first | done | (simp only [hji85]; rfl) | rfl | (simp only [List.length_drop, List.length_take]; rfl) | (simp [Act.eval, *]; done)) ?_
                                        with_reducible refine (spec_Digits.calls k ji85 t304 _ A86.out).mono ?_
                                        rintro e w96 ⟨rfl, hb⟩
                                        refine ⟨_, rfl, ?_⟩
                                        have n0_ := Aside0.mk (below_step (by repeat (first | (with_reducible first | exact HB.out | apply below_alloc | apply Ext.below_bytes | apply pw_below_drewN | apply below_drew1) | exact HB.out)) hb)
                                        clear HB
                                        have HB := n0_
                                        clear n0_
                                        (try clear hb)
                                        (try clear hb2)
                                        (try clear hk)
                                        (try clear hi)
                                        refine hK.out _ _ ⟨((HB.out.cell (World.block_lt_of_cell? w _ hw301_0)).trans hw301_0), ((HB.out.cell (World.block_lt_of_cell? w _ hw303_0)).trans hw303_0)⟩ (fun hHeld => ?_)
                                        clear hK K
                                        refine norm_ (a' := ?_) ?_ ?_
                                        rotate_left
                                        · show Act.put _ (some 135) _ = _
                                          simp only [Act.put, List.setIfInBounds_toArray, List.set_cons_zero, List.set_cons_succ, i64_w, i32_w]
                                          rfl
                                        refine pure_ (i := 12) (N := some 136) (v := ?_) (a' := ?_) #[true, true, true, true, true, true, true, true, true, true, true, true, true, false] rfl rfl (any_of HT_.out (by kernel_rfl)) (fun _ _ _ h => h) (Or.inl ⟨by rfl, ?_⟩) ?_ ?_
                                        rotate_left
                                        · intro w'
                                          go_simp
                                          with_reducible rfl
                                        rotate_left
                                        · simp only [Act.put, List.setIfInBounds_toArray, List.set_cons_zero, List.set_cons_succ, i64_w, i32_w]
                                          rfl
                                        refine pure_ (i := 13) (N := some 8) (v := ?_) (a' := ?_) #[true, true, true, true, true, true, true, true, true, true, true, true, true, true] rfl rfl (any_of HT_.out (by kernel_rfl)) (fun _ _ _ h => h) (Or.inl ⟨by rfl, ?_⟩) ?_ ?_
                                        rotate_left
                                        · intro w'
                                          go_simp
                                          with_reducible rfl
                                        rotate_left
                                        · simp only [Act.put, List.setIfInBounds_toArray, List.set_cons_zero, List.set_cons_succ, i64_w, i32_w]
                                          rfl
                                        refine done_ (done_of HT_.out (by kernel_rfl)) ?_
                                        have p305 : 0 ≤ (2 : Int) := (by omega)
                                        have q305 : 2 < (l1.length : Int) := of_decide_eq_true (by first | (with_reducible assumption) | assumption)
                                        obtain ⟨ad305, e305, hx305_0⟩ := Kd.at_int HR1.out 2 p305 q305
                                        obtain rfl : ad301 = ad305 := (by injection e305)
                                        (try simp only [show (2 : Int).toNat = 2 from rfl, Nat.reduceMul, Nat.reduceEqDiff, Go.Addr.add, ↓reduceIte] at hx305_0)
                                        have qi305 : (2 < l1.length) = True := eq_true (by omega)
                                        (try rw [show ((2 : Int)).toNat = 2 from rfl] at hx305_0)
                                        replace hx305_0 := (HB.out.cell (World.block_lt_of_cell? w _ hx305_0)).trans hx305_0
                                        replace p305 := eq_true p305
                                        replace q305 := eq_true q305
                                        have p306 : 0 ≤ (2 : Int) := (by omega)
                                        have q306 : 2 < (l1.length : Int) := of_decide_eq_true (by first | (with_reducible assumption) | assumption)
                                        obtain ⟨ad306, e306, hx306_0⟩ := Kd.at_int HR1.out 2 p306 q306
                                        obtain rfl : ad301 = ad306 := (by injection e306)
                                        (try simp only [show (2 : Int).toNat = 2 from rfl, Nat.reduceMul, Nat.reduceEqDiff, Go.Addr.add, ↓reduceIte] at hx306_0)
                                        have qi306 : (2 < l1.length) = True := eq_true (by omega)
                                        (try rw [show ((2 : Int)).toNat = 2 from rfl] at hx306_0)
                                        replace hx306_0 := (HB.out.cell (World.block_lt_of_cell? w _ hx306_0)).trans hx306_0
                                        replace p306 := eq_true p306
                                        replace q306 := eq_true q306
                                        try go_wp2_with (first | ((with_reducible refine gate_callee (f := 71) rfl ?_); refine goesL_ (some 145) rfl rfl Tryd.func71 (by kernel_rfl) rfl #[.int .i64 (rd l1 2)] rfl (by (try simp only [List.map_toArray, List.map_cons, List.map_nil]); first | done | rfl | (simp only [List.length_drop, List.length_take]; rfl) | (simp [Act.eval, *]; done)) ?_; (with_reducible refine (spec_Digits.calls k (rd l1 2) t307 _ A90.out).mono ?_); rintro e w97 ⟨rfl, hb⟩; refine ⟨_, rfl, ?_⟩; have n0_ := Aside0.mk (below_step (by repeat (first | (with_reducible first | exact HB.out | apply below_alloc | apply Ext.below_bytes | apply pw_below_drewN | apply below_drew1) | exact HB.out)) hb); clear HB; have HB := n0_; clear n0_; (try clear hb); (try clear hb2); (try clear hk); (try clear hi)))
                                        go_ret
                                        exact ⟨by first | rfl | (simp [errW_none, errW_some] <;> rfl) | (simp only [← hji80, ← hji85]; first | rfl | (simp [errW_none, errW_some] <;> rfl)) | (simp [*, errW_none, errW_some] <;> rfl), by repeat (first | (with_reducible first | exact HB.out | apply below_alloc | apply Ext.below_bytes | apply pw_below_drewN | apply below_drew1) | exact HB.out)⟩
                                      · rw [if_neg c93] at H
                                        exact absurd H (by simp)
                                    · rw [if_neg c92] at H
                                      exact absurd H (by simp)
                                  · rw [if_neg c91] at H
                                    exact absurd H (by simp)
                                · rw [if_neg c89] at H
                                  have c89b0 : decide (0 < (rd l1 2)) = false := decide_eq_false c89
                                  clear c89
                                  by_cases c98 : 3 + t302.size + 1 + t304.size + 1 ≤ 9223372036854775807
                                  · rw [if_pos c98] at H
                                    have c98b0 := eq_true c98
                                    have c98b1 : decide (3 + t302.size + 1 + t304.size + 1 ≤ 9223372036854775807) = true := decide_eq_true c98
                                    try have c98b2 : (9223372036854775807 < 3 + t302.size + 1 + t304.size + 1) = False := eq_false (Nat.not_lt.2 c98)
                                    obtain rfl := Option.some.inj H
                                    go_enter Tryd.func23, Tryd.ntmps23
                                    try go_wp2
                                    have n0_ := Aside0.mk (below_drew1 HB.out)
                                    clear HB
                                    have HB := n0_
                                    clear n0_
                                    have p301 : 0 ≤ (0 : Int) := (by omega)
                                    have q301 : 0 < (l1.length : Int) := of_decide_eq_true (by first | (with_reducible assumption) | assumption)
                                    obtain ⟨ad301, e301, hx301_0⟩ := Kd.at_int HR1.out 0 p301 q301
                                    have hw301_0 := hx301_0
                                    (try rw [show ((0 : Int)).toNat = 0 from rfl] at hw301_0)
                                    (try rw [show 0 * 1 = 0 from rfl] at hw301_0)
                                    (try rw [Addr.add_zero'] at hw301_0)
                                    cases e301
                                    have qi301 : (0 < l1.length) = True := eq_true (by omega)
                                    (try rw [show ((0 : Int)).toNat = 0 from rfl] at hx301_0)
                                    (try rw [Addr.add_zero'] at hx301_0)
                                    replace hx301_0 := (HB.out.cell (World.block_lt_of_cell? w _ hx301_0)).trans hx301_0
                                    replace p301 := eq_true p301
                                    replace q301 := eq_true q301
                                    have p303 : 0 ≤ (1 : Int) := (by omega)
                                    have q303 : 1 < (l1.length : Int) := of_decide_eq_true (by first | (with_reducible assumption) | assumption)
                                    obtain ⟨ad303, e303, hx303_0⟩ := Kd.at_int HR1.out 1 p303 q303
                                    have hw303_0 := hx303_0
                                    (try rw [show ((1 : Int)).toNat = 1 from rfl] at hw303_0)
                                    (try rw [show 1 * 1 = 1 from rfl] at hw303_0)
                                    (try simp only [Nat.reduceMul, Nat.reduceEqDiff, Go.Addr.add, ↓reduceIte] at hw303_0)
                                    obtain rfl : ad301 = ad303 := (by injection e303)
                                    (try simp only [show (1 : Int).toNat = 1 from rfl, Nat.reduceMul, Nat.reduceEqDiff, Go.Addr.add, ↓reduceIte] at hx303_0)
                                    have qi303 : (1 < l1.length) = True := eq_true (by omega)
                                    (try rw [show ((1 : Int)).toNat = 1 from rfl] at hx303_0)
                                    replace hx303_0 := (HB.out.cell (World.block_lt_of_cell? w _ hx303_0)).trans hx303_0
                                    replace p303 := eq_true p303
                                    replace q303 := eq_true q303
                                    refine start_ (n := 14) (S := fun w' => w'.cell? ad301 = some (.int .i64 (rd l1 0)) ∧ w'.cell? ⟨ad301.block, ad301.off + 1, none⟩ = some (.int .i64 (rd l1 1))) (ds := []) #[false, false, false, false, false, false, false, false, false, false, false, false, false, false] (by kernel_rfl) rfl rfl ⟨((HB.out.cell (World.block_lt_of_cell? w _ hw301_0)).trans hw301_0), ((HB.out.cell (World.block_lt_of_cell? w _ hw303_0)).trans hw303_0)⟩ (fun hHeld => ?_); refine with_tabW spec_MadeList.tab36 spec_MadeList.bits36 (fun HT_ HW_ => ?_)
                                    generalize w.drew = w99 at HB hx301_0 hx303_0 hHeld ⊢
                                    refine pure_ (i := 0) (N := some 124) (v := ?_) (a' := ?_) #[true, false, false, false, false, false, false, false, false, false, false, false, false, false] rfl rfl (any_of HT_.out (by kernel_rfl)) (fun _ _ _ h => h) (Or.inl ⟨by rfl, ?_⟩) ?_ ?_
                                    rotate_left
                                    · intro w'
                                      go_simp
                                      with_reducible rfl
                                    rotate_left
                                    · simp only [Act.put, List.setIfInBounds_toArray, List.set_cons_zero, List.set_cons_succ, i64_w, i32_w]
                                      rfl
                                    refine pure_ (i := 1) (N := some 125) (v := ?_) (a' := ?_) #[true, true, false, false, false, false, false, false, false, false, false, false, false, false] rfl rfl (any_of HT_.out (by kernel_rfl)) (fun _ _ _ h => h) (Or.inl ⟨by rfl, ?_⟩) ?_ ?_
                                    rotate_left
                                    · intro w'
                                      go_simp
                                      with_reducible rfl
                                    rotate_left
                                    · simp only [Act.put, List.setIfInBounds_toArray, List.set_cons_zero, List.set_cons_succ, i64_w, i32_w]
                                      rfl
                                    refine pure_ (i := 7) (N := some 131) (v := ?_) (a' := ?_) #[true, true, false, false, false, false, false, true, false, false, false, false, false, false] rfl rfl (any_of HT_.out (by kernel_rfl)) (fun _ _ _ h => h) (Or.inl ⟨by rfl, ?_⟩) ?_ ?_
                                    rotate_left
                                    · intro w'
                                      go_simp
                                      with_reducible rfl
                                    rotate_left
                                    · simp only [Act.put, List.setIfInBounds_toArray, List.set_cons_zero, List.set_cons_succ, i64_w, i32_w]
                                      rfl
                                    refine pure_ (i := 8) (N := some 132) (v := ?_) (a' := ?_) #[true, true, false, false, false, false, false, true, true, false, false, false, false, false] rfl rfl (any_of HT_.out (by kernel_rfl)) (fun _ _ _ h => h) (Or.inl ⟨by rfl, ?_⟩) ?_ ?_
                                    rotate_left
                                    · intro w'
                                      go_simp
                                      with_reducible rfl
                                    rotate_left
                                    · simp only [Act.put, List.setIfInBounds_toArray, List.set_cons_zero, List.set_cons_succ, i64_w, i32_w]
                                      rfl
                                    refine take_ (i := 2) (N := some 126) (v := ?_) (a' := ?_) #[true, true, true, false, false, false, false, true, true, false, false, false, false, false] rfl rfl (take_ofW HT_.out HW_.out (by kernel_rfl)) (fun _ _ _ h => h) (Or.inl ⟨by rfl, ?_⟩) hHeld ?_ ?_
                                    rotate_left
                                    · rintro w' ⟨s0, s1⟩
                                      go_simp
                                      with_reducible rfl
                                    rotate_left
                                    · simp only [Act.put, List.setIfInBounds_toArray, List.set_cons_zero, List.set_cons_succ, i64_w, i32_w]
                                      rfl
                                    refine pure_ (i := 3) (N := some 127) (v := ?_) (a' := ?_) #[true, true, true, true, false, false, false, true, true, false, false, false, false, false] rfl rfl (any_of HT_.out (by kernel_rfl)) (fun _ _ _ h => h) (Or.inl ⟨by rfl, ?_⟩) ?_ ?_
                                    rotate_left
                                    · intro w'
                                      go_simp
                                      with_reducible rfl
                                    rotate_left
                                    · simp only [Act.put, List.setIfInBounds_toArray, List.set_cons_zero, List.set_cons_succ, i64_w, i32_w]
                                      rfl
                                    refine take_ (i := 9) (N := some 133) (v := ?_) (a' := ?_) #[true, true, true, true, false, false, false, true, true, true, false, false, false, false] rfl rfl (take_ofW HT_.out HW_.out (by kernel_rfl)) (fun _ _ _ h => h) (Or.inl ⟨by rfl, ?_⟩) hHeld ?_ ?_
                                    rotate_left
                                    · rintro w' ⟨s0, s1⟩
                                      go_simp
                                      with_reducible rfl
                                    rotate_left
                                    · simp only [Act.put, List.setIfInBounds_toArray, List.set_cons_zero, List.set_cons_succ, i64_w, i32_w]
                                      rfl
                                    refine pure_ (i := 10) (N := some 134) (v := ?_) (a' := ?_) #[true, true, true, true, false, false, false, true, true, true, true, false, false, false] rfl rfl (any_of HT_.out (by kernel_rfl)) (fun _ _ _ h => h) (Or.inl ⟨by rfl, ?_⟩) ?_ ?_
                                    rotate_left
                                    · intro w'
                                      go_simp
                                      with_reducible rfl
                                    rotate_left
                                    · simp only [Act.put, List.setIfInBounds_toArray, List.set_cons_zero, List.set_cons_succ, i64_w, i32_w]
                                      rfl
                                    refine one_ (i := 4) (N := some 128) #[true, true, true, true, true, false, false, true, true, true, true, false, false, false] rfl rfl (one_of HT_.out (by kernel_rfl)) (by decide) (fun K hK => ?_)
                                    refine goes_ Tryd.func71 (by kernel_rfl) rfl #[.int .i64 ji80] (by rfl) rfl rfl (by (try simp only [List.map_toArray, List.map_cons, List.map_nil]); first | done | (simp only [hji80]; rfl) | rfl | (simp only [List.length_drop, List.length_take]; rfl) | (simp [Act.eval, *]; done)) ?_
                                    with_reducible refine (spec_Digits.calls k ji80 t302 _ A81.out).mono ?_
                                    rintro e w100 ⟨rfl, hb⟩
                                    refine ⟨_, rfl, ?_⟩
                                    have n0_ := Aside0.mk (below_step (by repeat (first | (with_reducible first | exact HB.out | apply below_alloc | apply Ext.below_bytes | apply pw_below_drewN | apply below_drew1) | exact HB.out)) hb)
                                    clear HB
                                    have HB := n0_
                                    clear n0_
                                    (try clear hb)
                                    (try clear hb2)
                                    (try clear hk)
                                    (try clear hi)
                                    refine hK.out _ _ ⟨((HB.out.cell (World.block_lt_of_cell? w _ hw301_0)).trans hw301_0), ((HB.out.cell (World.block_lt_of_cell? w _ hw303_0)).trans hw303_0)⟩ (fun hHeld => ?_)
                                    clear hK K
                                    refine norm_ (a' := ?_) ?_ ?_
                                    rotate_left
                                    · show Act.put _ (some 128) _ = _
                                      simp only [Act.put, List.setIfInBounds_toArray, List.set_cons_zero, List.set_cons_succ, i64_w, i32_w]
                                      rfl
                                    refine pure_ (i := 5) (N := some 129) (v := ?_) (a' := ?_) #[true, true, true, true, true, true, false, true, true, true, true, false, false, false] rfl rfl (any_of HT_.out (by kernel_rfl)) (fun _ _ _ h => h) (Or.inl ⟨by rfl, ?_⟩) ?_ ?_
                                    rotate_left
                                    · intro w'
                                      go_simp
                                      with_reducible rfl
                                    rotate_left
                                    · simp only [Act.put, List.setIfInBounds_toArray, List.set_cons_zero, List.set_cons_succ, i64_w, i32_w]
                                      rfl
                                    refine pure_ (i := 6) (N := some 130) (v := ?_) (a' := ?_) #[true, true, true, true, true, true, true, true, true, true, true, false, false, false] rfl rfl (any_of HT_.out (by kernel_rfl)) (fun _ _ _ h => h) (Or.inl ⟨by rfl, ?_⟩) ?_ ?_
                                    rotate_left
                                    · intro w'
                                      go_simp
                                      with_reducible rfl
                                    rotate_left
                                    · simp only [Act.put, List.setIfInBounds_toArray, List.set_cons_zero, List.set_cons_succ, i64_w, i32_w]
                                      rfl
                                    refine one_ (i := 11) (N := some 135) #[true, true, true, true, true, true, true, true, true, true, true, true, false, false] rfl rfl (one_of HT_.out (by kernel_rfl)) (by decide) (fun K hK => ?_)
                                    refine goes_ Tryd.func71 (by kernel_rfl) rfl #[.int .i64 ji85] (by rfl) rfl rfl (by (try simp only [List.map_toArray, List.map_cons, List.map_nil]); first | done | (simp only [hji85]; rfl) | rfl | (simp only [List.length_drop, List.length_take]; rfl) | (simp [Act.eval, *]; done)) ?_
                                    with_reducible refine (spec_Digits.calls k ji85 t304 _ A86.out).mono ?_
                                    rintro e w101 ⟨rfl, hb⟩
                                    refine ⟨_, rfl, ?_⟩
                                    have n0_ := Aside0.mk (below_step (by repeat (first | (with_reducible first | exact HB.out | apply below_alloc | apply Ext.below_bytes | apply pw_below_drewN | apply below_drew1) | exact HB.out)) hb)
                                    clear HB
                                    have HB := n0_
                                    clear n0_
                                    (try clear hb)
                                    (try clear hb2)
                                    (try clear hk)
                                    (try clear hi)
                                    refine hK.out _ _ ⟨((HB.out.cell (World.block_lt_of_cell? w _ hw301_0)).trans hw301_0), ((HB.out.cell (World.block_lt_of_cell? w _ hw303_0)).trans hw303_0)⟩ (fun hHeld => ?_)
                                    clear hK K
                                    refine norm_ (a' := ?_) ?_ ?_
                                    rotate_left
                                    · show Act.put _ (some 135) _ = _
                                      simp only [Act.put, List.setIfInBounds_toArray, List.set_cons_zero, List.set_cons_succ, i64_w, i32_w]
                                      rfl
                                    refine pure_ (i := 12) (N := some 136) (v := ?_) (a' := ?_) #[true, true, true, true, true, true, true, true, true, true, true, true, true, false] rfl rfl (any_of HT_.out (by kernel_rfl)) (fun _ _ _ h => h) (Or.inl ⟨by rfl, ?_⟩) ?_ ?_
                                    rotate_left
                                    · intro w'
                                      go_simp
                                      with_reducible rfl
                                    rotate_left
                                    · simp only [Act.put, List.setIfInBounds_toArray, List.set_cons_zero, List.set_cons_succ, i64_w, i32_w]
                                      rfl
                                    refine pure_ (i := 13) (N := some 8) (v := ?_) (a' := ?_) #[true, true, true, true, true, true, true, true, true, true, true, true, true, true] rfl rfl (any_of HT_.out (by kernel_rfl)) (fun _ _ _ h => h) (Or.inl ⟨by rfl, ?_⟩) ?_ ?_
                                    rotate_left
                                    · intro w'
                                      go_simp
                                      with_reducible rfl
                                    rotate_left
                                    · simp only [Act.put, List.setIfInBounds_toArray, List.set_cons_zero, List.set_cons_succ, i64_w, i32_w]
                                      rfl
                                    refine done_ (done_of HT_.out (by kernel_rfl)) ?_
                                    have p305 : 0 ≤ (2 : Int) := (by omega)
                                    have q305 : 2 < (l1.length : Int) := of_decide_eq_true (by first | (with_reducible assumption) | assumption)
                                    obtain ⟨ad305, e305, hx305_0⟩ := Kd.at_int HR1.out 2 p305 q305
                                    obtain rfl : ad301 = ad305 := (by injection e305)
                                    (try simp only [show (2 : Int).toNat = 2 from rfl, Nat.reduceMul, Nat.reduceEqDiff, Go.Addr.add, ↓reduceIte] at hx305_0)
                                    have qi305 : (2 < l1.length) = True := eq_true (by omega)
                                    (try rw [show ((2 : Int)).toNat = 2 from rfl] at hx305_0)
                                    replace hx305_0 := (HB.out.cell (World.block_lt_of_cell? w _ hx305_0)).trans hx305_0
                                    replace p305 := eq_true p305
                                    replace q305 := eq_true q305
                                    try go_wp2
                                    go_ret
                                    exact ⟨by first | rfl | (simp [errW_none, errW_some] <;> rfl) | (simp only [← hji80, ← hji85]; first | rfl | (simp [errW_none, errW_some] <;> rfl)) | (simp [*, errW_none, errW_some] <;> rfl), by repeat (first | (with_reducible first | exact HB.out | apply below_alloc | apply Ext.below_bytes | apply pw_below_drewN | apply below_drew1) | exact HB.out)⟩
                                  · rw [if_neg c98] at H
                                    exact absurd H (by simp)
                              · rw [if_neg c88] at H
                                exact absurd H (by simp)
                            · rw [if_neg c87] at H
                              exact absurd H (by simp)
                          · rw [if_neg c84] at H
                            exact absurd H (by simp)
                        · rw [if_neg c83] at H
                          exact absurd H (by simp)
                      · rw [if_neg c82] at H
                        exact absurd H (by simp)
                    · rw [if_neg c79] at H
                      exact absurd H (by simp)
                  · rw [if_neg c78] at H
                    have c78b0 : ((l1.length : Int) == 3) = false := beq_eq_false_iff_ne.mpr c78
                    have c78b1 : ((l1.length : Int) != 3) = true := bne_iff_ne.mpr c78
                    obtain rfl := Option.some.inj H
                    go_enter Tryd.func23, Tryd.ntmps23
                    go_wp2
                    go_ret
                    exact ⟨by first | rfl | (simp [errW_none, errW_some] <;> rfl) | (simp [*, errW_none, errW_some] <;> rfl), by repeat (first | (with_reducible first | exact HB.out | apply below_alloc | apply Ext.below_bytes | apply pw_below_drewN | apply below_drew1) | exact HB.out)⟩
                · rw [if_neg c77] at H
                  have c77b0 : (a0 == 7) = false := beq_eq_false_iff_ne.mpr c77
                  have c77b1 : (a0 != 7) = true := bne_iff_ne.mpr c77
                  by_cases c102 : (l1.length : Int) = 4
                  · rw [if_pos c102] at H
                    have c102b0 : ((l1.length : Int) == 4) = true := beq_iff_eq.mpr c102
                    have c102b1 : ((l1.length : Int) != 4) = false := bne_eq_false_iff_eq.mpr c102
                    clear c102
                    have H' := Aside0.mk H
                    clear H
                    go_enter Tryd.func23, Tryd.ntmps23
                    go_wp2
                    go_loopg [9, 155] k (fun kq v9 v155 w' => ∃ (x9_1 : ByteArray) (x155_1 : Int), v9 = .string x9_1 ∧ v155 = .int .i64 x155_1 ∧ Aside0 (spec_MadeList.l1 kq x9_1 l1 (l1.length : Int) x155_1 = some r) ∧ Aside0 (kq ≤ k) ∧ Aside0 (Below w.heap.size w w'))
                    case atStart => exact ⟨((⟨#[27, 91, 52, 56]⟩ : ByteArray)), (0), (by first | rfl | (simp; done) | (simp [*]; done)), (by first | rfl | (simp; done) | (simp [*]; done)), H', ⟨Nat.le_refl _⟩, ⟨by repeat (first | (with_reducible first | exact HB.out | apply below_alloc | apply Ext.below_bytes | apply pw_below_drewN | apply below_drew1) | exact HB.out)⟩⟩
                    case round =>
                      clear H'
                      try clear c1
                      try clear c2
                      try clear p2
                      try clear q2
                      try clear hx2
                      try clear qi2
                      try clear p3
                      try clear q3
                      try clear hx3
                      try clear qi3
                      try clear c5
                      try clear c6
                      try clear c7
                      try clear c8
                      try clear c9
                      try clear c10
                      try clear c23
                      try clear p29
                      try clear q29
                      try clear hx29
                      try clear qi29
                      try clear p30
                      try clear q30
                      try clear hx30
                      try clear qi30
                      try clear c53
                      try clear c53b0
                      try clear c53b1
                      try clear c60
                      try clear c61
                      try clear c61b0
                      try clear c62
                      try clear c64
                      try clear c65
                      try clear c67
                      try clear c68
                      try clear c71
                      try clear c72
                      try clear c72b0
                      try clear c72b1
                      try clear c74
                      try clear c74b0
                      try clear c74b1
                      try clear c74b2
                      try clear c75
                      try clear c75b0
                      try clear c75b1
                      try clear c75b2
                      try clear c77
                      try clear c77b0
                      try clear c77b1
                      try clear c78
                      try clear c78b0
                      try clear c78b1
                      try clear c79
                      try clear c79b0
                      try clear c79b1
                      try clear c82
                      try clear c82b0
                      try clear c82b1
                      try clear c82b2
                      try clear c83
                      try clear c83b0
                      try clear c83b1
                      try clear c83b2
                      try clear c84
                      try clear c84b0
                      try clear c84b1
                      try clear c87
                      try clear c87b0
                      try clear c87b1
                      try clear c87b2
                      try clear c88
                      try clear c88b0
                      try clear c88b1
                      try clear c89
                      try clear c89b0
                      try clear c91
                      try clear c91b0
                      try clear c91b1
                      try clear c91b2
                      try clear c92
                      try clear c92b0
                      try clear c92b1
                      try clear c92b2
                      try clear c93
                      try clear c93b0
                      try clear c93b1
                      try clear c93b2
                      try clear c98
                      try clear c98b0
                      try clear c98b1
                      try clear c98b2
                      try clear c102
                      try clear c102b0
                      try clear c102b1
                      try clear hx294_0
                      try clear hx299_0
                      try clear hx301_0
                      try clear hx303_0
                      try clear hx305_0
                      try clear hx306_0
                      try clear p294
                      try clear p299
                      try clear p301
                      try clear p303
                      try clear p305
                      try clear p306
                      try clear q294
                      try clear q299
                      try clear q301
                      try clear q303
                      try clear q305
                      try clear q306
                      obtain ⟨x9_1, x155_1, rfl, rfl, HA, HK1, HB⟩ := hrel
                      cases gk with
                      | zero => exact absurd HA.out (by simp [spec_MadeList.l1])
                      | succ k1 =>
                        have H := HA.out
                        clear HA
                        simp only [spec_MadeList.l1] at H
                        by_cases c103 : x155_1 < (l1.length : Int)
                        · rw [if_pos c103] at H
                          have c103b0 : decide (x155_1 < (l1.length : Int)) = true := decide_eq_true c103
                          clear c103
                          by_cases c104 : 0 ≤ x155_1
                          · rw [if_pos c104] at H
                            have c104b0 : decide (0 ≤ x155_1) = true := decide_eq_true c104
                            clear c104
                            by_cases c105 : x155_1 < (l1.length : Int)
                            · rw [if_pos c105] at H
                              have c105b0 : decide (x155_1 < (l1.length : Int)) = true := decide_eq_true c105
                              clear c105
                              obtain ⟨ji106, hji106⟩ : ∃ j_ : Int, (mx (rd l1 x155_1) 0) = j_ := ⟨_, rfl⟩
                              replace H : ((spec_Digits.f k1 (ji106)).bind fun t309 => (if 1 + t309.size ≤ 9223372036854775807 then (if x9_1.size + (1 + t309.size) ≤ 9223372036854775807 then (spec_MadeList.l1 k1 (x9_1 ++ ((⟨#[59]⟩ : ByteArray) ++ t309)) l1 (l1.length : Int) (wrap64 (x155_1 + 1))) else (none)) else (none))) = some r := by first | (rw [hji106] at H; exact H) | (simp only [hji106] at H ⊢; exact H)
                              have hji106_ : (if (rd l1 x155_1) < 0 then 0 else (rd l1 x155_1)) = ji106 := hji106
                              replace H := Option.bind_eq_some_iff.mp H
                              obtain ⟨t309, A1070, H⟩ := H
                              replace H : (if 1 + t309.size ≤ 9223372036854775807 then (if x9_1.size + (1 + t309.size) ≤ 9223372036854775807 then (spec_MadeList.l1 k1 (x9_1 ++ ((⟨#[59]⟩ : ByteArray) ++ t309)) l1 (l1.length : Int) (wrap64 (x155_1 + 1))) else (none)) else (none)) = some r := H
                              have A107 := Aside0.mk A1070
                              clear A1070
                              by_cases c108 : 1 + t309.size ≤ 9223372036854775807
                              · rw [if_pos c108] at H
                                have c108b0 := eq_true c108
                                have c108b1 : decide (1 + t309.size ≤ 9223372036854775807) = true := decide_eq_true c108
                                try have c108b2 : (9223372036854775807 < 1 + t309.size) = False := eq_false (Nat.not_lt.2 c108)
                                by_cases c109 : x9_1.size + (1 + t309.size) ≤ 9223372036854775807
                                · rw [if_pos c109] at H
                                  have c109b0 := eq_true c109
                                  have c109b1 : decide (x9_1.size + (1 + t309.size) ≤ 9223372036854775807) = true := decide_eq_true c109
                                  try have c109b2 : (9223372036854775807 < x9_1.size + (1 + t309.size)) = False := eq_false (Nat.not_lt.2 c109)
                                  have H' := Aside0.mk H
                                  clear H
                                  have p308 : 0 ≤ (x155_1 : Int) := of_decide_eq_true (by first | (with_reducible assumption) | assumption)
                                  have q308 : x155_1 < (l1.length : Int) := of_decide_eq_true (by first | (with_reducible assumption) | assumption)
                                  obtain ⟨ad308, e308, hx308_0⟩ := Kd.at_int HR1.out x155_1 p308 q308
                                  cases e308
                                  replace hx308_0 := (HB.out.cell (World.block_lt_of_cell? w _ hx308_0)).trans hx308_0
                                  replace p308 := eq_true p308
                                  replace q308 := eq_true q308
                                  go_wp2_with (first | ((with_reducible refine gate_callee (f := 71) rfl ?_); refine goesL_ (some 162) rfl rfl Tryd.func71 (by kernel_rfl) rfl #[.int .i64 ji106] rfl (by (try simp only [List.map_toArray, List.map_cons, List.map_nil]); first | done | (simp only [hji106]; rfl) | rfl | (simp only [List.length_drop, List.length_take]; rfl) | (simp [Act.eval, *]; done)) ?_; (with_reducible refine (spec_Digits.calls k1 ji106 t309 _ A107.out).mono ?_); rintro e w110 ⟨rfl, hb⟩; refine ⟨_, rfl, ?_⟩; have n0_ := Aside0.mk (below_step (by repeat (first | (with_reducible first | exact HB.out | apply below_alloc | apply Ext.below_bytes | apply pw_below_drewN | apply below_drew1) | exact HB.out)) hb); clear HB; have HB := n0_; clear n0_; (try clear hb); (try clear hb2); (try clear hk); (try clear hi)))
                                  go_roundg k1
                                  case measure => have := HK1.out; omega
                                  case rel => exact ⟨(x9_1 ++ ((⟨#[59]⟩ : ByteArray) ++ t309)), (wrap64 (x155_1 + 1)), (by first | rfl | (simp; done) | (simp [*]; done)), (by first | rfl | (simp; done) | (simp [*]; done)), H', ⟨by have := HK1.out; omega⟩, ⟨by repeat (first | (with_reducible first | exact HB.out | apply below_alloc | apply Ext.below_bytes | apply pw_below_drewN | apply below_drew1) | exact HB.out)⟩⟩
                                · rw [if_neg c109] at H
                                  exact absurd H (by simp)
                              · rw [if_neg c108] at H
                                exact absurd H (by simp)
                            · rw [if_neg c105] at H
                              exact absurd H (by simp)
                          · rw [if_neg c104] at H
                            exact absurd H (by simp)
                        · rw [if_neg c103] at H
                          have c103b0 : decide (x155_1 < (l1.length : Int)) = false := decide_eq_false c103
                          clear c103
                          by_cases c111 : x9_1.size + 1 ≤ 9223372036854775807
                          · rw [if_pos c111] at H
                            have c111b0 := eq_true c111
                            have c111b1 : decide (x9_1.size + 1 ≤ 9223372036854775807) = true := decide_eq_true c111
                            try have c111b2 : (9223372036854775807 < x9_1.size + 1) = False := eq_false (Nat.not_lt.2 c111)
                            obtain rfl := Option.some.inj H
                            go_wp2
                            go_ret
                            exact ⟨by first | rfl | (simp [errW_none, errW_some] <;> rfl) | (simp [*, errW_none, errW_some] <;> rfl), by repeat (first | (with_reducible first | exact HB.out | apply below_alloc | apply Ext.below_bytes | apply pw_below_drewN | apply below_drew1) | exact HB.out)⟩
                          · rw [if_neg c111] at H
                            exact absurd H (by simp)
                  · rw [if_neg c102] at H
                    have c102b0 : ((l1.length : Int) == 4) = false := beq_eq_false_iff_ne.mpr c102
                    have c102b1 : ((l1.length : Int) != 4) = true := bne_iff_ne.mpr c102
                    obtain rfl := Option.some.inj H
                    go_enter Tryd.func23, Tryd.ntmps23
                    go_wp2
                    go_ret
                    exact ⟨by first | rfl | (simp [errW_none, errW_some] <;> rfl) | (simp [*, errW_none, errW_some] <;> rfl), by repeat (first | (with_reducible first | exact HB.out | apply below_alloc | apply Ext.below_bytes | apply pw_below_drewN | apply below_drew1) | exact HB.out)⟩

end Go.Proofs.YtplmmblofhhikaaDoor.PM
