/- The walk of the law FnDiacritic, by hand: an index out of bounds has the first diacritic, which is what the listed table begins with. -/
import Derived.Test.YtbgneopgpgpgoaaDoorDiaA
import Derived.LaidMore
import Derived.ChangeArms
namespace Go.Proofs.YtbgneopgpgpgoaaDoor.Dia
set_option linter.unusedVariables false
set_option linter.unusedSimpArgs false
open Go Go.RowKit Go.Proofs.YtbgneopgpgpgoaaDoorW.PrintWords Go.Proofs.YtbgneopgpgpgoaaDoorW.PrintLast Go.Proofs.YtbgneopgpgpgoaaDoorW.PrintMore Go.Proofs.YtbgneopgpgpgoaaDoor.Or

/-- The table of diacritics is a row of 297 numbers that begins with 773. -/
def First (w : World) : Prop := ∃ (ad : Addr) (c : Nat), w.cell? ⟨0, 0, none⟩ = some (.slice (some ad) 297 c) ∧ w.cell? ad = some (.int .i32 773)
def Laid2 (w : World) : Prop := Laid w ∧ First w
theorem First.below {w w' : World} (h : First w) (hb : Below w.heap.size w w') : First w' := by
  obtain ⟨ad, c, h1, h2⟩ := h
  exact ⟨ad, c, (hb.cell (World.block_lt_of_cell? w _ h1)).trans h1, (hb.cell (World.block_lt_of_cell? w _ h2)).trans h2⟩

theorem first_of {w : World} {ds : List (DataW Unit)} {rest : List (String × DataW Unit)} {ps : List MemPlace} (hl : ds.length = 297) (h0 : ds[0]? = some (.lit (.int .i32 773)))
    (h : DataW.LaidVars Tryd.prog w (("pub-escapade/pub/xansi/kitty.diacritics", .slice ds []) :: rest) ps) : First w := by
  obtain ⟨g', t', cs, fuel, p, q, hg', ht', hvar, hd, _, _⟩ := h
  obtain rfl := Option.some.inj ((show Tryd.prog.globalNamed "pub-escapade/pub/xansi/kitty.diacritics" = some 0 by kernel_rfl).symm.trans hg')
  obtain rfl := Option.some.inj ((show (Tryd.prog.globals[0]?).map (·.type) = some 34 by kernel_rfl).symm.trans ht')
  obtain ⟨a, cap, hcs, hle, hel⟩ := open_row Tryd.underlying34 (by kernel_rfl) hd
  obtain ⟨v, n, q', hc, hv⟩ := hel 0 _ h0
  obtain ⟨m, e1, e2, _⟩ := DataW.trod_int Tryd.underlying21 hv
  simp only [List.cons.injEq, and_true] at e1
  simp only [Prod.mk.injEq, DataW.lit.injEq, Lit.int.injEq, true_and] at e2
  have hvv : v = .int .i32 773 := by rw [e1, ← e2.1]
  subst hvv
  have hcs' : cs = #[.slice (some a) ds.length cap] := by
    apply Array.toList_inj.1
    rw [hcs]
  subst hcs'
  rw [hl] at hvar
  refine ⟨a, cap, ?_, ?_⟩
  · have hn : Tryd.prog.globalNamed "pub-escapade/pub/xansi/kitty.diacritics" = some 0 := by kernel_rfl
    unfold World.var? at hvar
    rw [hn] at hvar
    simp only [Option.bind_some] at hvar
    unfold World.cell?
    split at hvar <;> simp_all
  · have e0 : a.add 0 = a := by simp [Addr.add]
    rw [← e0]
    exact hc

set_option maxHeartbeats 8000000 in
set_option maxRecDepth 100000 in
theorem dia (i : Int) (w : World) (hF : First w) (hi : i < 0 ∨ 100000 < i ∨ i = 0) :
    Calls Tryd.prog 7 #[.int .i64 i] w fun e w' => e = .returned (.int .i32 773) ∧ Below w.heap.size w w' := by
  obtain ⟨ad, c, hg, hc⟩ := hF
  rcases hi with hi | hi | rfl
  · have t1 : decide (i < 0) = true := decide_eq_true hi
    go_enter Tryd.func7, Tryd.ntmps7
    go_wp2
    go_ret
    exact ⟨rfl, Below.refl _ _⟩
  · have t1 : decide (i < 0) = false := decide_eq_false (by omega)
    have t2 : decide (297 ≤ i) = true := decide_eq_true (by omega)
    go_enter Tryd.func7, Tryd.ntmps7
    go_wp2
    go_ret
    exact ⟨rfl, Below.refl _ _⟩
  · go_enter Tryd.func7, Tryd.ntmps7
    go_wp2
    go_ret
    exact ⟨rfl, Below.refl _ _⟩

set_option maxHeartbeats 8000000 in
set_option maxRecDepth 100000 in
theorem idia (i : Int) (w : World) (hF : First w) (hi : i < 0 ∨ 100000 < i ∨ i = 0) :
    Calls Tryd.prog 5 #[.int .i64 i] w fun e w' => e = .returned (.int .i64 773) ∧ Below w.heap.size w w' := by
  go_enter Tryd.func5, Tryd.ntmps5
  go_wp2_with fail
  refine (dia i w hF hi).mono ?_
  rintro e w1 ⟨rfl, hb1⟩
  go_wp2
  go_ret
  exact ⟨rfl, hb1⟩

set_option maxHeartbeats 8000000 in
set_option maxRecDepth 100000 in
theorem walk (i : Int) (w : World) (hL : Laid2 w) (hw : (Lit.int .i64 i).wf = true) :
    Calls Tryd.prog 3 #[.int .i64 i] w fun e w' => e = .returned (.bool true) ∧ Below w.heap.size w w' := by
  have HL := Aside0.mk hL.1
  have HF := Aside0.mk hL.2
  clear hL hw
  by_cases hin : 0 ≤ i ∧ i ≤ 100000
  · have t1 : decide (0 ≤ i) = true := decide_eq_true hin.1
    have t2 : decide (i ≤ 100000) = true := decide_eq_true hin.2
    clear hin
    go_enter Tryd.func3, Tryd.ntmps3
    go_wp2_with fail
    refine (kittyAwake w HL.out).mono ?_
    rintro e w1 ⟨rfl, hb1⟩
    go_wp2
    go_ret
    exact ⟨rfl, hb1⟩
  · have hi : i < 0 ∨ 100000 < i ∨ i = 0 := by omega
    have key : ∀ t1 : Bool, decide (0 ≤ i) = t1 → (t1 = true → decide (i ≤ 100000) = false) → Calls Tryd.prog 3 #[.int .i64 i] w fun e w' => e = .returned (.bool true) ∧ Below w.heap.size w w' := by
      intro t1 ht1 ht2
      cases t1 with
      | true =>
        have t2 := ht2 rfl
        clear ht2 hin
        go_enter Tryd.func3, Tryd.ntmps3
        go_wp2_with fail
        refine (idia 0 w HF.out (Or.inr (Or.inr rfl))).mono ?_
        rintro e w1 ⟨rfl, hb1⟩
        go_wp2_with fail
        refine (kittyAwake w1 (HL.out.below hb1)).mono ?_
        rintro e w2 ⟨rfl, hb2⟩
        go_wp2_with fail
        refine (idia i w2 ((HF.out.below hb1).below hb2) hi).mono ?_
        rintro e w3 ⟨rfl, hb3⟩
        go_wp2
        go_ret
        exact ⟨rfl, below_step (below_step hb1 hb2) hb3⟩
      | false =>
        clear ht2 hin
        go_enter Tryd.func3, Tryd.ntmps3
        go_wp2_with fail
        refine (idia 0 w HF.out (Or.inr (Or.inr rfl))).mono ?_
        rintro e w1 ⟨rfl, hb1⟩
        go_wp2_with fail
        refine (kittyAwake w1 (HL.out.below hb1)).mono ?_
        rintro e w2 ⟨rfl, hb2⟩
        go_wp2_with fail
        refine (idia i w2 ((HF.out.below hb1).below hb2) hi).mono ?_
        rintro e w3 ⟨rfl, hb3⟩
        go_wp2
        go_ret
        exact ⟨rfl, below_step (below_step hb1 hb2) hb3⟩
    exact key _ rfl (fun h => decide_eq_false (by
      have := of_decide_eq_true h
      omega))

end Go.Proofs.YtbgneopgpgpgoaaDoor.Dia
