/- The row of the law FnSixelBack and its tied card, out of its plain law and its walk. The frame is the kit's, turned by program (wip/row.py). -/
import Derived.Test.YtjicpadeplminaaDoorRows
import Derived.Test.YtjicpadeplminaaDoorPEx4
import Derived.Test.YtjicpadeplminaaDoorCards
import Derived.Test.YtjicpadeplminaaDoorTie
import Derived.Test.YtjicpadeplminaaDoorPureFnSixelBack
import Derived.WalkKit
import Derived.ProofKit
import Derived.OpenShut
import Derived.ShutString
import Derived.ChangeOld
import Derived.Below
import Derived.SizedLaws
import Derived.Test.YtjicpadeplminaaDoorWSized
import Derived.Lib.SmallJoins
import Derived.Test.YtjicpadeplminaaDoorAgg
import Derived.LaidMore
import Derived.LaidHandle
import Derived.MakeChecks
import Derived.SevenTiedAt
import Derived.Lib.LaidTab
import Derived.ChangeSame
import Derived.ChangeVars
namespace Go.Proofs.YtjicpadeplminaaDoor.fnSixelBack
open Go.ChangeShapes Go.WideShapes Go.ChangeAt Go.RowKit
open Go.ChangeMaps (open_string shut_string)
set_option linter.unusedVariables false
theorem own : ownKnob Tryd.prog.godebug = none := by kernel_rfl
noncomputable abbrev laid : List (String × DataW Unit) := Rows.fnSixelBackRow.laid
theorem door_met (os : Os) (args : Array Value) : laidMetH Tryd.prog laid ((World.doorLaid Tryd.prog 4000 os).forCall (fun _ _ => 0) ⟨#[], args, []⟩).memory :=
  laidMetH_of_parts3 (fuel := 8) (laidMet_of_run' 8 (by kernel_rfl) (by kernel_rfl)) (by kernel_rfl) (by kernel_rfl)
theorem of_laid {W : World} (h : laidMetH Tryd.prog laid W) : Or.Laid W := by
  rw [MakeChecks.laidMetH_plain _ _ _ (by kernel_rfl)] at h
  obtain ⟨ps, h, _⟩ := h
  obtain ⟨_, _, _, _, _, _, _, _, _, _, h, _⟩ := h
  obtain ⟨_, _, _, _, _, _, _, _, _, _, h, _⟩ := h
  exact Or.tab_of h
theorem walk (a0_0 : Int) (a0_1 : Int) (a0_2 : Int) (a0_3 : Int) (a1 : Int) (a2 : Int) (a3_0 : Int) (a3_1 : Int) (a3_2 : Int) (a3_3 : Int) (a3_4 : Int) (W : World) (hLD : Or.Laid W) (w0_0 : (Lit.int .i64 a0_0).wf = true) (w0_1 : (Lit.int .i64 a0_1).wf = true) (w0_2 : (Lit.int .i64 a0_2).wf = true) (w0_3 : (Lit.int .i64 a0_3).wf = true) (w1 : (Lit.int .i64 a1).wf = true) (w2 : (Lit.int .u8 a2).wf = true) (w3_0 : (Lit.int .i64 a3_0).wf = true) (w3_1 : (Lit.int .i64 a3_1).wf = true) (w3_2 : (Lit.int .i64 a3_2).wf = true) (w3_3 : (Lit.int .i64 a3_3).wf = true) (w3_4 : (Lit.int .i64 a3_4).wf = true) : Calls Tryd.prog 6 #[.agg #[.int .i64 a0_0, .int .i64 a0_1, .int .i64 a0_2, .int .i64 a0_3], .int .i64 a1, .int .u8 a2, .agg #[.int .i64 a3_0, .int .i64 a3_1, .int .i64 a3_2, .int .i64 a3_3, .int .i64 a3_4]] W fun e w' => e = .returned (.bool true) ∧ Below W.heap.size W w' := by
  obtain ⟨k, h⟩ := Pure.FnSixelBack a0_0 a0_1 a0_2 a0_3 a1 a2 a3_0 a3_1 a3_2 a3_3 a3_4 w0_0 w0_1 w0_2 w0_3 w1 w2 w3_0 w3_1 w3_2 w3_3 w3_4
  refine (PE.laws_FnSixelBack.calls k a0_0 a0_1 a0_2 a0_3 a1 a2 a3_0 a3_1 a3_2 a3_3 a3_4 true W hLD h).mono ?_
  rintro e w' ⟨rfl, hd⟩
  exact ⟨rfl, by first | exact hd | exact hd.below⟩
set_option maxRecDepth 100000 in
theorem lifted (os : Os) (started : os.Started) (H : Type) (enc : TypeId × Value → H) :
    ReturnsInHanded {} Tryd.checked os 6 .any (fun w args => (Rows.fnSixelBackSpec.pre enc Tryd.prog Tryd.f6 [] false w args ∧ laidMetH Tryd.prog laid w) ∧ sizedMet enc Tryd.prog Tryd.f6 (OpenSpec.ofChange Rows.fnSixelBackSpec) false w args)
      (Rows.fnSixelBackSpec.post enc Tryd.prog Tryd.f6 false true false false) := by
  refine returnsInHanded_of_change_and (C := Tryd.checked) (X := fun w _ => laidMetH Tryd.prog laid w) (fun _ _ _ hh h => h.of_heap hh) own started (by kernel_rfl) Tryd.func6
    (ChangeSpec.witness_shaped (enc := enc) (C := Tryd.checked) (os := os) (X := fun w _ => laidMetH Tryd.prog laid w) false (World.doorLaid Tryd.prog 4000 os) #[.agg #[.int .i64 0, .int .i64 0, .int .i64 0, .int .i64 0], .int .i64 0, .int .u8 0, .agg #[.int .i64 0, .int .i64 0, .int .i64 0, .int .i64 0, .int .i64 0]] 8 rfl (World.shaped_of_RefB (by kernel_rfl) (by kernel_rfl)) (by kernel_rfl) (by kernel_rfl) (by kernel_rfl) (door_met os _)) ?_
  intro W base args ds gs before hval0 hW hcnd hsz0 hL _
  have hsz : (DataW.weightsEach Tryd.prog (Tryd.f6.params.toList ++ Rows.fnSixelBackSpec.plain.varTypes Tryd.prog) (ds ++ gs)).all (· ≤ reachBytes) = true := hsz0
  have hval : ∀ (j : Nat) t v, Tryd.f6.params[j]? = some t → args[j]? = some v → Value.okWide Tryd.prog W .any base t v := hval0
  have hW' := hW
  obtain ⟨p, q, hA0, hV, rfl, hfz, hnd⟩ := hW
  have hA : DataW.TrodAll enc Tryd.prog W 0 (fun _ => true) true Tryd.f6.params.toList args.toList ds p := hA0
  rw [Tryd.params6] at hA hval hsz
  obtain ⟨v0, vs0, d0, ds0, p0, q0, hargs, rfl, rfl, h0, r0⟩ := trodAll_cons hA
  obtain ⟨v1, vs1, d1, ds1, p1, q1, rfl, rfl, rfl, h1, r1⟩ := trodAll_cons r0
  obtain ⟨v2, vs2, d2, ds2, p2, q2, rfl, rfl, rfl, h2, r2⟩ := trodAll_cons r1
  obtain ⟨v3, vs3, d3, ds3, p3, q3, rfl, rfl, rfl, h3, r3⟩ := trodAll_cons r2
  obtain ⟨rfl, rfl, rfl⟩ := trodAll_nil r3
  obtain rfl : args = #[v0, v1, v2, v3] := by cases args; simp_all
  obtain ⟨rfl, rfl⟩ := trodVars_none hV
  obtain ⟨v0_0, v0_1, v0_2, v0_3, y0_0, y0_1, y0_2, y0_3, n0, rfl, rfl, rfl, g0_0, g0_1, g0_2, g0_3⟩ := Joins.open_agg4 Tryd.underlying33 (by kernel_rfl) (by kernel_rfl) (hval 0 33 v0 rfl rfl) h0
  obtain ⟨a0_0, e0_0, rfl, w0_0⟩ := DataW.trod_int Tryd.underlying2 g0_0
  simp only [List.cons.injEq, and_true] at e0_0
  subst e0_0
  obtain ⟨a0_1, e0_1, rfl, w0_1⟩ := DataW.trod_int Tryd.underlying2 g0_1
  simp only [List.cons.injEq, and_true] at e0_1
  subst e0_1
  obtain ⟨a0_2, e0_2, rfl, w0_2⟩ := DataW.trod_int Tryd.underlying2 g0_2
  simp only [List.cons.injEq, and_true] at e0_2
  subst e0_2
  obtain ⟨a0_3, e0_3, rfl, w0_3⟩ := DataW.trod_int Tryd.underlying2 g0_3
  simp only [List.cons.injEq, and_true] at e0_3
  subst e0_3
  obtain ⟨a1, rfl, rfl, rfl, w1⟩ := open_int Tryd.underlying2 (hval 1 2 v1 rfl rfl) h1
  obtain ⟨a2, rfl, rfl, rfl, w2⟩ := open_int Tryd.underlying5 (hval 2 5 v2 rfl rfl) h2
  obtain ⟨v3_0, v3_1, v3_2, v3_3, v3_4, y3_0, y3_1, y3_2, y3_3, y3_4, n3, rfl, rfl, rfl, g3_0, g3_1, g3_2, g3_3, g3_4⟩ := Agg.open_agg5 Tryd.underlying23 (by kernel_rfl) (by kernel_rfl) (hval 3 23 v3 rfl rfl) h3
  obtain ⟨a3_0, e3_0, rfl, w3_0⟩ := DataW.trod_int Tryd.underlying2 g3_0
  simp only [List.cons.injEq, and_true] at e3_0
  subst e3_0
  obtain ⟨a3_1, e3_1, rfl, w3_1⟩ := DataW.trod_int Tryd.underlying2 g3_1
  simp only [List.cons.injEq, and_true] at e3_1
  subst e3_1
  obtain ⟨a3_2, e3_2, rfl, w3_2⟩ := DataW.trod_int Tryd.underlying2 g3_2
  simp only [List.cons.injEq, and_true] at e3_2
  subst e3_2
  obtain ⟨a3_3, e3_3, rfl, w3_3⟩ := DataW.trod_int Tryd.underlying2 g3_3
  simp only [List.cons.injEq, and_true] at e3_3
  subst e3_3
  obtain ⟨a3_4, e3_4, rfl, w3_4⟩ := DataW.trod_int Tryd.underlying2 g3_4
  simp only [List.cons.injEq, and_true] at e3_4
  subst e3_4
  have hLD := of_laid hL
  clear hA0 hval0 hsz0 hsz
  refine (walk a0_0 a0_1 a0_2 a0_3 a1 a2 a3_0 a3_1 a3_2 a3_3 a3_4 W hLD w0_0 w0_1 w0_2 w0_3 w1 w2 w3_0 w3_1 w3_2 w3_3 w3_4).mono fun e W' ⟨he, bel⟩ => ?_
  subst he
  exact ⟨_, rfl, _, _, _, [], _, [], hW', trodAll_mk1 (shut_bool Tryd.underlying4 _), (trodAll_cons_mk (Joins.shut_agg4 (y0 := (.lit (.int .i64 a0_0), [])) (y1 := (.lit (.int .i64 a0_1), [])) (y2 := (.lit (.int .i64 a0_2), [])) (y3 := (.lit (.int .i64 a0_3), [])) Tryd.underlying33 (by kernel_rfl) (by kernel_rfl) (Joins.field_of_Trod (shut_int Tryd.underlying2 w0_0) rfl) (Joins.field_of_Trod (shut_int Tryd.underlying2 w0_1) rfl) (Joins.field_of_Trod (shut_int Tryd.underlying2 w0_2) rfl) (Joins.field_of_Trod (shut_int Tryd.underlying2 w0_3) rfl)) (trodAll_cons_mk (shut_int Tryd.underlying2 w1) (trodAll_cons_mk (shut_int Tryd.underlying5 w2) (trodAll_cons_mk (Agg.shut_agg5 (y0 := (.lit (.int .i64 a3_0), [])) (y1 := (.lit (.int .i64 a3_1), [])) (y2 := (.lit (.int .i64 a3_2), [])) (y3 := (.lit (.int .i64 a3_3), [])) (y4 := (.lit (.int .i64 a3_4), [])) Tryd.underlying23 (by kernel_rfl) (by kernel_rfl) (Joins.field_of_Trod (shut_int Tryd.underlying2 w3_0) rfl) (Joins.field_of_Trod (shut_int Tryd.underlying2 w3_1) rfl) (Joins.field_of_Trod (shut_int Tryd.underlying2 w3_2) rfl) (Joins.field_of_Trod (shut_int Tryd.underlying2 w3_3) rfl) (Joins.field_of_Trod (shut_int Tryd.underlying2 w3_4) rfl)) trodAll_mk0)))), rfl, bel.frame _, fun h => by cases h⟩
theorem over : Rows.fnSixelBackRow.holds Tryd.pinned (OpenSpec.ofChange Rows.fnSixelBackSpec) :=
  OpenClaim.holds_of_wide 6 Tryd.f6 rfl rfl rfl rfl rfl rfl rfl ⟨rfl, rfl, rfl, rfl, rfl⟩ rfl rfl rfl rfl rfl (by kernel_rfl) Tryd.func6 (by kernel_rfl)
    (of_decide_eq_true (by kernel_rfl)) (by unfold Func.isWrapper; first | (rw [if_pos (by decide +kernel)]; kernel_rfl) | (rw [if_neg (by decide +kernel)]; exact ⟨rfl, rfl⟩))
    (fun os started H enc _ => lifted os started H enc)
theorem proved : Rows.FnSixelBackSaid := over
theorem card : Rows.FnSixelBackCardSaid :=
  Claim7.holds_tied_plain_at .later [] [.data, .data, .data] true (true, "86e01a9ec29319fffbfc88c39bd3b5ad667521f206f06a602ccec30e2e6d580d") true
    proved (fun _ h => by cases h) (by kernel_rfl) (fun _ h => by cases h) fnSixelBack_row_tie rfl ⟨rfl, rfl⟩ (by kernel_rfl) rfl
    (fun f fn hf hfn => by
      obtain rfl : f = 6 := Option.some.inj ((show Tryd.prog.funcNamed "pub-escapade/laws.FnSixelBack" = some 6 by kernel_rfl).symm.trans hf) |>.symm
      obtain rfl : fn = Tryd.f6 := (Option.some.inj (Tryd.func6.symm.trans hfn)).symm
      exact ⟨by kernel_rfl, fun j t ht => by
        rw [Tryd.params6] at ht
        have hm : t ∈ [33, 2, 5, 23] := by simpa using Array.mem_of_getElem? ht
        have hall : ([33, 2, 5, 23].all fun u => !Tryd.prog.wantsStandIn u) = true := by kernel_rfl
        exact (show Tryd.prog.wantsStandIn t = false by simpa using List.all_eq_true.1 hall t hm)⟩)
    (by kernel_rfl)
#print axioms card
end Go.Proofs.YtjicpadeplminaaDoor.fnSixelBack
namespace Go.Proofs.YtjicpadeplminaaDoor
/-- The statement, under a short name, for the claim. -/
theorem fnSixelBack_holds : Rows.FnSixelBackCardSaid := fnSixelBack.card
end Go.Proofs.YtjicpadeplminaaDoor
