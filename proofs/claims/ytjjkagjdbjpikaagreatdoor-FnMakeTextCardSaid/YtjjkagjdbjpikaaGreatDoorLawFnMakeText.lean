/- The row of the law FnMakeText and its tied card, out of its plain law and its walk. The frame is the kit's, turned by program (wip/row.py). -/
import Derived.Test.YtjjkagjdbjpikaaGreatDoorRows
import Derived.Test.YtjjkagjdbjpikaaGreatDoorPMx3
import Derived.Test.YtjjkagjdbjpikaaGreatDoorCards
import Derived.Test.YtjjkagjdbjpikaaGreatDoorTie
import Derived.Test.YtjjkagjdbjpikaaGreatDoorPureFnMakeText
import Derived.WalkKit
import Derived.ProofKit
import Derived.OpenShut
import Derived.ShutString
import Derived.ChangeOld
import Derived.Below
import Derived.SizedLaws
import Derived.Test.YtjjkagjdbjpikaaGreatDoorWSized
import Derived.LaidMore
import Derived.LaidHandle
import Derived.MakeChecks
import Derived.SevenTiedAt
import Derived.Lib.LaidTab
import Derived.ChangeSame
import Derived.ChangeVars
import Derived.Lay
namespace Go.Proofs.YtjjkagjdbjpikaaGreatDoor.fnMakeText
open Go.ChangeShapes Go.WideShapes Go.ChangeAt Go.RowKit
open Go.ChangeMaps (open_string shut_string)
set_option linter.unusedVariables false
theorem own : ownKnob Tryz.prog.godebug = none := by kernel_rfl
noncomputable abbrev laid : List (String × DataW Unit) := Rows.fnMakeTextRow.laid
theorem door_met (os : Os) (args : Array Value) : laidMetH Tryz.prog laid ((World.laidAll Tryz.prog os laid).forCall (fun _ _ => 0) ⟨#[], args, []⟩).memory := by
  rw [MakeChecks.laidMetH_plain _ _ _ (by kernel_rfl)]
  exact laidMet_laidAll _ (by kernel_rfl) (by kernel_rfl)
theorem of_laid {W : World} (h : laidMetH Tryz.prog laid W) : Or.Laid W := by
  rw [MakeChecks.laidMetH_plain _ _ _ (by kernel_rfl)] at h
  obtain ⟨ps, h, _⟩ := h
  obtain ⟨_, _, _, _, _, _, _, _, _, _, h, _⟩ := h
  obtain ⟨_, _, _, _, _, _, _, _, _, _, h, _⟩ := h
  exact Or.tab_of h
set_option maxRecDepth 100000 in
theorem lifted (os : Os) (started : os.Started) (H : Type) (enc : TypeId × Value → H) :
    ReturnsInHanded {} Tryz.checked os 5 .any (fun w args => (Rows.fnMakeTextSpec.pre enc Tryz.prog Tryz.f5 [] false w args ∧ laidMetH Tryz.prog laid w) ∧ sizedMet enc Tryz.prog Tryz.f5 (OpenSpec.ofChange Rows.fnMakeTextSpec) false w args)
      (Rows.fnMakeTextSpec.post enc Tryz.prog Tryz.f5 false true false false) := by
  refine returnsInHanded_of_change_and (C := Tryz.checked) (X := fun w _ => laidMetH Tryz.prog laid w) (fun _ _ _ hh h => h.of_heap hh) own started (by kernel_rfl) Tryz.func5
    (ChangeSpec.witness_shaped (enc := enc) (C := Tryz.checked) (os := os) (X := fun w _ => laidMetH Tryz.prog laid w) false (World.laidAll Tryz.prog os laid) #[.int .i64 0, .string ByteArray.empty] 8 (World.laidAll_os _ _ _) (World.shaped_of_ZipB (by kernel_rfl) (by kernel_rfl)) (by kernel_rfl) (by kernel_rfl) (by kernel_rfl) (door_met os _)) ?_
  intro W base args ds gs before hval0 hW hcnd hsz0 hL _
  have hsz : (DataW.weightsEach Tryz.prog (Tryz.f5.params.toList ++ Rows.fnMakeTextSpec.plain.varTypes Tryz.prog) (ds ++ gs)).all (· ≤ reachBytes) = true := hsz0
  have hval : ∀ (j : Nat) t v, Tryz.f5.params[j]? = some t → args[j]? = some v → Value.okWide Tryz.prog W .any base t v := hval0
  have hW' := hW
  obtain ⟨p, q, hA0, hV, rfl, hfz, hnd⟩ := hW
  have hA : DataW.TrodAll enc Tryz.prog W 0 (fun _ => true) true Tryz.f5.params.toList args.toList ds p := hA0
  rw [Tryz.params5] at hA hval hsz
  obtain ⟨v0, vs0, d0, ds0, p0, q0, hargs, rfl, rfl, h0, r0⟩ := trodAll_cons hA
  obtain ⟨v1, vs1, d1, ds1, p1, q1, rfl, rfl, rfl, h1, r1⟩ := trodAll_cons r0
  obtain ⟨rfl, rfl, rfl⟩ := trodAll_nil r1
  obtain rfl : args = #[v0, v1] := by cases args; simp_all
  obtain ⟨rfl, rfl⟩ := trodVars_none hV
  obtain ⟨a0, rfl, rfl, rfl, w0⟩ := open_int Tryz.underlying2 (hval 0 2 v0 rfl rfl) h0
  obtain ⟨a1, rfl, rfl, rfl, y1⟩ := open_string Tryz.underlying9 (hval 1 9 v1 rfl rfl) h1
  have w1 : a1.size ≤ 140737488351232 := by
    have z := sized_string hsz (j := 1) (t := 9) rfl rfl
    rw [Array.length_toList] at z
    exact z
  have hLD := of_laid hL
  clear hA0 hval0 hsz0 hsz
  refine (PM.laws_FnMakeText.walk Pure.FnMakeText a0 a1 W hLD w0 w1).mono fun e W' ⟨he, bel⟩ => ?_
  subst he
  exact ⟨_, rfl, _, _, _, [], _, [], hW', trodAll_mk1 (shut_bool Tryz.underlying4 _), (trodAll_cons_mk (shut_int Tryz.underlying2 w0) (trodAll_cons_mk (shut_string Tryz.underlying9 y1) trodAll_mk0)), rfl, bel.frame _, fun h => by cases h⟩
theorem over : Rows.fnMakeTextRow.holds Tryz.pinned (OpenSpec.ofChange Rows.fnMakeTextSpec) :=
  OpenClaim.holds_of_wide 5 Tryz.f5 rfl rfl rfl rfl rfl rfl rfl ⟨rfl, rfl, rfl, rfl, rfl⟩ rfl rfl rfl rfl rfl (by kernel_rfl) Tryz.func5 (by kernel_rfl)
    (of_decide_eq_true (by kernel_rfl)) (by unfold Func.isWrapper; first | (rw [if_pos (by decide +kernel)]; kernel_rfl) | (rw [if_neg (by decide +kernel)]; exact ⟨rfl, rfl⟩))
    (fun os started H enc _ => lifted os started H enc)
theorem proved : Rows.FnMakeTextSaid := over
theorem card : Rows.FnMakeTextCardSaid :=
  Claim7.holds_tied_plain_at .later [] [.data, .data, .data, .data, .sentinel, .pinned] true (true, "453d2542e7bac4111b97d6340462ca0ed21199dc4216775627f9f24b60f4bc30") false
    proved (fun _ h => by cases h) (by kernel_rfl) (fun _ h => by cases h) fnMakeText_row_tie rfl ⟨rfl, rfl⟩ (by kernel_rfl) rfl
    (fun f fn hf hfn => by
      obtain rfl : f = 5 := Option.some.inj ((show Tryz.prog.funcNamed "pub-escapade/laws.FnMakeText" = some 5 by kernel_rfl).symm.trans hf) |>.symm
      obtain rfl : fn = Tryz.f5 := (Option.some.inj (Tryz.func5.symm.trans hfn)).symm
      exact ⟨by kernel_rfl, fun j t ht => by
        rw [Tryz.params5] at ht
        have hm : t ∈ [2, 9] := by simpa using Array.mem_of_getElem? ht
        have hall : ([2, 9].all fun u => !Tryz.prog.wantsStandIn u) = true := by kernel_rfl
        exact (show Tryz.prog.wantsStandIn t = false by simpa using List.all_eq_true.1 hall t hm)⟩)
    (by kernel_rfl)
#print axioms card
end Go.Proofs.YtjjkagjdbjpikaaGreatDoor.fnMakeText
namespace Go.Proofs.YtjjkagjdbjpikaaGreatDoor
/-- The statement, under a short name, for the claim. -/
theorem fnMakeText_holds : Rows.FnMakeTextCardSaid := fnMakeText.card
end Go.Proofs.YtjjkagjdbjpikaaGreatDoor
