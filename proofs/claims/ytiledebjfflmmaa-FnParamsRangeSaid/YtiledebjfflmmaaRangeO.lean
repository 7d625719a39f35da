/- FnParamsRange: impl.RangeOf, by hand (its contract in the print's form). -/
import Derived.Test.YtiledebjfflmmaaRangeW
namespace Go.Proofs.Ytiledebjfflmmaa.Ea
set_option linter.unusedVariables false
set_option linter.unusedSimpArgs false
open Go Go.RowKit Go.Proofs.YtiledebjfflmmaaW.PrintWords Go.Proofs.YtiledebjfflmmaaW.PrintLast Go.Proofs.YtiledebjfflmmaaW.PrintMore Go.Proofs.Ytiledebjfflmmaa.PE

set_option maxHeartbeats 8000000 in
set_option maxRecDepth 100000 in
theorem rangeOf (A0 : Option Addr) (c0 : Nat) (l : List Int) (most : Int) (w : World) (hr0 : Kd.C (Kd.int .i64) w A0 l.length l) (hl : l.length ≤ 100000) (hmo : 1 ≤ most) :
    Calls Try.prog 9 #[.slice A0 l.length c0, .int .i64 most] w fun e w' => ∃ v0_ : Value, e = .returned (v0_) ∧ Kd.R k27 27 w' w.heap.size (fun _ => True) v0_ (ents (-1) l (min most.toNat l.length)) ∧ Below w.heap.size w w' := by
  have hmf : ∀ (fn : Fn) (first cap : Array Value) (w : World), (Instr.makeFunc fn first cap).run Try.prog w = .ok (.func fn first cap) w := fun _ _ _ _ => rfl
  have HR0 := Aside0.mk hr0
  clear hr0
  go_enter Try.func9, Try.ntmps9
  go_wp2
  go_loopw [5, 11] (fun v5 v11 wr => ∃ (J : Int) (k : Nat), v11 = .int .i64 J ∧ Aside0 (J = (k : Int)) ∧ Aside0 (k ≤ l.length) ∧ Aside0 (Kd.R (Kd.int .i64) 3 wr w.heap.size (fun _ => True) v5 (l.take k)) ∧ Aside0 (Below w.heap.size w wr) ∧ Aside0 (Most wr w.heap.size most)) (fun _ v11 _ => l.length - (intOf v11).toNat)
  case atStart => exact ⟨0, 0, rfl, ⟨rfl⟩, ⟨Nat.zero_le _⟩, ⟨Kd.R_nil _ _ _ _ _⟩, ⟨below_alloc (Below.refl _ _) _⟩, ⟨heap_alloc_new _ _⟩⟩
  case round =>
    obtain ⟨J, k, rfl, HJ, HK, HO, HB, HM⟩ := hrel
    by_cases hlt : k < l.length
    · have hj := HJ.out
      have tlt : decide (J < (l.length : Int)) = true := decide_eq_true (by omega)
      have p0 : 0 ≤ J := by omega
      have q0 : J < (l.length : Int) := by omega
      have hwr : wrap64 (J + 1) = J + 1 := by unfold wrap64; omega
      obtain ⟨y, hy⟩ : ∃ y, y = l.take k := ⟨_, rfl⟩
      rw [← hy] at HO
      have hyl : y.length = k := by rw [hy, List.length_take]; omega
      have hys : l.take (k + 1) = y ++ [rd l J] := by
        rw [hy, hj]
        unfold rd
        rw [Int.toNat_natCast, List.take_add_one, List.getElem?_eq_getElem hlt, List.getD_eq_getElem?_getD, List.getElem?_eq_getElem hlt]
        rfl
      have HYS := Aside0.mk hys
      have HYL := Aside0.mk hyl
      clear hj hy hys hyl
      obtain ⟨ad, e0, hx⟩ := Kd.at_int HR0.out J p0 q0
      cases e0
      have hx0 := (HB.out.cell (World.block_lt_of_cell? w _ hx)).trans hx
      replace p0 := eq_true p0
      replace q0 := eq_true q0
      go_wp2_with (first | ((with_reducible refine gate_builtin (b := .append) (xs := #[.tmp 15, .tmp 17]) rfl ?_); at_builtin; refine Kd.R_append (Kd.int .i64) (w0 := w) w.heap.size rfl (.tmp 15) (.tmp 17) 32 3 (.int .i64 0) 8 rfl Try.underlying32 info3 rfl (by decide) (by omega) u5 y (rd l J) [.int .i64 (rd l J)] (fun _ => True) (fun _ => False) rfl rfl ?aP (fun _ hk => hk.elim) ?aF ?aO ?aB ?aS ?aL ?_; (case aP => exact rfl); (case aB => exact HB.out); (case aF => exact (fun _ _ => trivial)); (case aO => exact HO.out); (case aS => exact (below_size HB.out)); (case aL => have := HYL.out; omega); intro v1 w1 ho hb hg hat; rw [← HYS.out] at ho; have HO1 := Aside0.mk ho; have HB1 := Aside0.mk hb; have HM1 := Aside0.mk (show Most w1 w.heap.size most from blk_grown HM.out hg (Kd.R_away (Kd.R_types HO.out HM.out (by decide)) (fun _ hk => hk.2))); clear ho hb hg hat))
      go_roundw
      case rel => exact ⟨wrap64 (J + 1), k + 1, rfl, ⟨by rw [hwr, HJ.out]; rfl⟩, ⟨hlt⟩, HO1, HB1, HM1⟩
      case measure =>
        have := HJ.out
        rw [hwr]
        simp [intOf]
        omega
    · have hj := HJ.out
      have tlt : decide (J < (l.length : Int)) = false := decide_eq_false (by omega)
      obtain rfl : k = l.length := by have := HK.out; omega
      clear hj
      rw [List.take_length] at HO
      obtain ⟨Aq, cq, eq5⟩ := Kd.R_slice HO.out
      subst eq5
      go_wp2_with (first | ((with_reducible refine gate_dst (N := 8) rfl ?_); (try (refine gate_guard (by rfl) ?_; dsimp only)); refine box_event ?hg (N := 8) ?hd (cs := #[.slice none 0 0]) (t := 23) ?hr ?_; (case hd => rfl); (case hg => rfl); (case hr => first | (go_simp; done) | (go_simp; rfl)); intro g hg wb hbox hb; have HO2 := Aside0.mk (Kd.R_below HO.out hb); have GE := Aside0.mk (show w.heap.size ≤ g by rw [hg]; exact below_size HB.out); have HB2 := Aside0.mk (below_step HB.out hb); have BX := Aside0.mk (show Box wb w.heap.size g [] from ⟨_, hbox, Kd.R_nil _ _ _ _ _⟩); have BK := Aside0.mk hbox; have HM2 := Aside0.mk (show Most wb w.heap.size most from (hb.block _ (blk_lt HM.out)).trans HM.out); clear hbox hb hg; have hcg : wb.cell? ⟨g, 0, none⟩ = some (.slice none 0 0) := (blk_cell BK.out 0).trans rfl) | fail)
      refine (range wb w.heap.size g w.heap.size most GE.out Aq cq l hl hmo (below_size HB2.out) HO2.out BX.out HM2.out).mono ?_
      rintro e w4 ⟨rfl, ⟨v4, hk4, hr4⟩, hb4⟩
      obtain ⟨A4, c4, rfl⟩ := Kd.R_slice hr4
      have hc4 : w4.cell? ⟨g, 0, none⟩ = some (.slice A4 (ents (-1) l (min most.toNat l.length)).length c4) := (blk_cell hk4 0).trans rfl
      go_wp2
      go_ret
      exact ⟨_, rfl, hr4, HB2.out.trans hb4⟩

end Go.Proofs.Ytiledebjfflmmaa.Ea
namespace Go.Proofs.Ytiledebjfflmmaa.PE
set_option linter.unusedVariables false
open Go Go.RowKit Go.Proofs.YtiledebjfflmmaaW.PrintWords Go.Proofs.YtiledebjfflmmaaW.PrintLast Go.Proofs.YtiledebjfflmmaaW.PrintMore
def impl_RangeOf.f (l0 : List Int) (a1 : Int) : Option ((List (S27))) := if l0.length ≤ 100000 ∧ 1 ≤ a1 then some (Go.Proofs.Ytiledebjfflmmaa.Ea.ents (-1) l0 (min a1.toNat l0.length)) else none
theorem impl_RangeOf.calls (A0 : Option Addr) (c0 : Nat) (l0 : List Int) (a1 : Int) (r : List (S27)) (w : World) (hr0 : Kd.C (Kd.int .i64) w A0 l0.length l0) (hc0 : l0.length ≤ c0) (h : impl_RangeOf.f l0 a1 = some r) :
    Calls Try.prog 9 #[.slice A0 l0.length c0, .int .i64 a1] w fun e w' => ∃ v0_ : Value, e = .returned (v0_) ∧ Kd.R k27 27 w' w.heap.size (fun _ => True) v0_ r ∧ Below w.heap.size w w' := by
  unfold impl_RangeOf.f at h
  split at h
  · rename_i hc
    cases h
    exact Go.Proofs.Ytiledebjfflmmaa.Ea.rangeOf A0 c0 l0 a1 w hr0 hc.1 hc.2
  · exact absurd h (by simp)
end Go.Proofs.Ytiledebjfflmmaa.PE
