/- The row of the law FnMakeReport and its tied card, out of its plain law and its walk. The frame is the kit's, turned by program (wip/row.py). -/
import Derived.Test.YtplmmblofhhikaaDoorRows
import Derived.Test.YtplmmblofhhikaaDoorPOx4
import Derived.Test.YtplmmblofhhikaaDoorCards
import Derived.Test.YtplmmblofhhikaaDoorTie
import Derived.Test.YtplmmblofhhikaaDoorPureFnMakeReport
import Derived.WalkKit
import Derived.ProofKit
import Derived.OpenShut
import Derived.ShutString
import Derived.ChangeOld
import Derived.Below
import Derived.SizedLaws
import Derived.Test.YtplmmblofhhikaaDoorWSized
import Derived.Lib.SmallJoins
import Derived.LaidMore
import Derived.LaidHandle
import Derived.MakeChecks
import Derived.SevenTiedAt
import Derived.Lib.LaidTab
import Derived.ChangeSame
import Derived.ChangeVars
namespace Go.Proofs.YtplmmblofhhikaaDoor.fnMakeReport
open Go.ChangeShapes Go.WideShapes Go.ChangeAt Go.RowKit
open Go.ChangeMaps (open_string shut_string)
set_option linter.unusedVariables false
theorem own : ownKnob Tryd.prog.godebug = none := by kernel_rfl
noncomputable abbrev laid : List (String × DataW Unit) := Rows.fnMakeReportRow.laid
theorem door_met (os : Os) (args : Array Value) : laidMetH Tryd.prog laid ((World.doorLaid Tryd.prog 4000 os).forCall (fun _ _ => 0) ⟨#[], args, []⟩).memory :=
  laidMetH_of_parts3 (fuel := 8) (laidMet_of_run' 8 (by kernel_rfl) (by kernel_rfl)) (by kernel_rfl) (by kernel_rfl)
theorem of_laid {W : World} (h : laidMetH Tryd.prog laid W) : Or.Laid W := by
  rw [MakeChecks.laidMetH_plain _ _ _ (by kernel_rfl)] at h
  obtain ⟨ps, h, _⟩ := h
  obtain ⟨_, _, _, _, _, _, _, _, _, _, h, _⟩ := h
  obtain ⟨_, _, _, _, _, _, _, _, _, _, h, _⟩ := h
  exact Or.tab_of h
theorem walk (a0_0 : Bool) (a0_1 : Int) (a1 : Int) (W : World) (hLD : Or.Laid W) (w0_1 : (Lit.int .i64 a0_1).wf = true) (w1 : (Lit.int .u8 a1).wf = true) : Calls Tryd.prog 11 #[.agg #[.bool a0_0, .int .i64 a0_1], .int .u8 a1] W fun e w' => e = .returned (.bool true) ∧ Below W.heap.size W w' := by
  obtain ⟨k, h⟩ := Pure.FnMakeReport a0_0 a0_1 a1 w0_1 w1
  refine (PO.laws_FnMakeReport.calls k a0_0 a0_1 a1 true W hLD h).mono ?_
  rintro e w' ⟨rfl, hd⟩
  exact ⟨rfl, by first | exact hd | exact hd.below⟩
set_option maxRecDepth 100000 in
theorem lifted (os : Os) (started : os.Started) (H : Type) (enc : TypeId × Value → H) :
    ReturnsInHanded {} Tryd.checked os 11 .any (fun w args => (Rows.fnMakeReportSpec.pre enc Tryd.prog Tryd.f11 [] false w args ∧ laidMetH Tryd.prog laid w) ∧ sizedMet enc Tryd.prog Tryd.f11 (OpenSpec.ofChange Rows.fnMakeReportSpec) false w args)
      (Rows.fnMakeReportSpec.post enc Tryd.prog Tryd.f11 false true false false) := by
  refine returnsInHanded_of_change_and (C := Tryd.checked) (X := fun w _ => laidMetH Tryd.prog laid w) (fun _ _ _ hh h => h.of_heap hh) own started (by kernel_rfl) Tryd.func11
    (ChangeSpec.witness_shaped (enc := enc) (C := Tryd.checked) (os := os) (X := fun w _ => laidMetH Tryd.prog laid w) false (World.doorLaid Tryd.prog 4000 os) #[.agg #[.bool false, .int .i64 0], .int .u8 0] 8 rfl (World.shaped_of_RefB (by kernel_rfl) (by kernel_rfl)) (by kernel_rfl) (by kernel_rfl) (by kernel_rfl) (door_met os _)) ?_
  intro W base args ds gs before hval0 hW hcnd hsz0 hL _
  have hsz : (DataW.weightsEach Tryd.prog (Tryd.f11.params.toList ++ Rows.fnMakeReportSpec.plain.varTypes Tryd.prog) (ds ++ gs)).all (· ≤ reachBytes) = true := hsz0
  have hval : ∀ (j : Nat) t v, Tryd.f11.params[j]? = some t → args[j]? = some v → Value.okWide Tryd.prog W .any base t v := hval0
  have hW' := hW
  obtain ⟨p, q, hA0, hV, rfl, hfz, hnd⟩ := hW
  have hA : DataW.TrodAll enc Tryd.prog W 0 (fun _ => true) true Tryd.f11.params.toList args.toList ds p := hA0
  rw [Tryd.params11] at hA hval hsz
  obtain ⟨v0, vs0, d0, ds0, p0, q0, hargs, rfl, rfl, h0, r0⟩ := trodAll_cons hA
  obtain ⟨v1, vs1, d1, ds1, p1, q1, rfl, rfl, rfl, h1, r1⟩ := trodAll_cons r0
  obtain ⟨rfl, rfl, rfl⟩ := trodAll_nil r1
  obtain rfl : args = #[v0, v1] := by cases args; simp_all
  obtain ⟨rfl, rfl⟩ := trodVars_none hV
  obtain ⟨v0_0, v0_1, y0_0, y0_1, n0, rfl, rfl, rfl, g0_0, g0_1⟩ := Joins.open_agg2 Tryd.underlying51 (by kernel_rfl) (by kernel_rfl) (hval 0 51 v0 rfl rfl) h0
  obtain ⟨a0_0, e0_0, rfl⟩ := DataW.trod_bool Tryd.underlying4 g0_0
  simp only [List.cons.injEq, and_true] at e0_0
  subst e0_0
  obtain ⟨a0_1, e0_1, rfl, w0_1⟩ := DataW.trod_int Tryd.underlying2 g0_1
  simp only [List.cons.injEq, and_true] at e0_1
  subst e0_1
  obtain ⟨a1, rfl, rfl, rfl, w1⟩ := open_int Tryd.underlying5 (hval 1 5 v1 rfl rfl) h1
  have hLD := of_laid hL
  clear hA0 hval0 hsz0 hsz
  refine (walk a0_0 a0_1 a1 W hLD w0_1 w1).mono fun e W' ⟨he, bel⟩ => ?_
  subst he
  exact ⟨_, rfl, _, _, _, [], _, [], hW', trodAll_mk1 (shut_bool Tryd.underlying4 _), (trodAll_cons_mk (Joins.shut_agg2 (y0 := (.lit (.bool a0_0), [])) (y1 := (.lit (.int .i64 a0_1), [])) Tryd.underlying51 (by kernel_rfl) (by kernel_rfl) (Joins.field_of_Trod (shut_bool Tryd.underlying4 _) rfl) (Joins.field_of_Trod (shut_int Tryd.underlying2 w0_1) rfl)) (trodAll_cons_mk (shut_int Tryd.underlying5 w1) trodAll_mk0)), rfl, bel.frame _, fun h => by cases h⟩
theorem over : Rows.fnMakeReportRow.holds Tryd.pinned (OpenSpec.ofChange Rows.fnMakeReportSpec) :=
  OpenClaim.holds_of_wide 11 Tryd.f11 rfl rfl rfl rfl rfl rfl rfl ⟨rfl, rfl, rfl, rfl, rfl⟩ rfl rfl rfl rfl rfl (by kernel_rfl) Tryd.func11 (by kernel_rfl)
    (of_decide_eq_true (by kernel_rfl)) (by unfold Func.isWrapper; first | (rw [if_pos (by decide +kernel)]; kernel_rfl) | (rw [if_neg (by decide +kernel)]; exact ⟨rfl, rfl⟩))
    (fun os started H enc _ => lifted os started H enc)
theorem proved : Rows.FnMakeReportSaid := over
theorem card : Rows.FnMakeReportCardSaid :=
  Claim7.holds_tied_plain_at .later [] [.data, .data, .data] true (true, "4cc7dcc22dc739ef71b0a3a5de1365dfdbdc7275d2ca2761a5ce365df8e4f7f4") true
    proved (fun _ h => by cases h) (by kernel_rfl) (fun _ h => by cases h) fnMakeReport_row_tie rfl ⟨rfl, rfl⟩ (by kernel_rfl) rfl
    (fun f fn hf hfn => by
      obtain rfl : f = 11 := Option.some.inj ((show Tryd.prog.funcNamed "pub-escapade/laws.FnMakeReport" = some 11 by kernel_rfl).symm.trans hf) |>.symm
      obtain rfl : fn = Tryd.f11 := (Option.some.inj (Tryd.func11.symm.trans hfn)).symm
      exact ⟨by kernel_rfl, fun j t ht => by
        rw [Tryd.params11] at ht
        have hm : t ∈ [51, 5] := by simpa using Array.mem_of_getElem? ht
        have hall : ([51, 5].all fun u => !Tryd.prog.wantsStandIn u) = true := by kernel_rfl
        exact (show Tryd.prog.wantsStandIn t = false by simpa using List.all_eq_true.1 hall t hm)⟩)
    (by kernel_rfl)
#print axioms card
end Go.Proofs.YtplmmblofhhikaaDoor.fnMakeReport
namespace Go.Proofs.YtplmmblofhhikaaDoor
/-- The statement, under a short name, for the claim. -/
theorem fnMakeReport_holds : Rows.FnMakeReportCardSaid := fnMakeReport.card
end Go.Proofs.YtplmmblofhhikaaDoor
