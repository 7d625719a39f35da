/- (*Parser).Params where one parameter is told, by hand. -/
import Derived.Test.YtmpmfdghdaofhaaDoorMachC
namespace Go.Proofs.YtmpmfdghdaofhaaDoor.Ma
set_option linter.unusedVariables false
set_option linter.unusedSimpArgs false
open Go Go.RowKit Go.Proofs.YtmpmfdghdaofhaaDoorW.PrintWords Go.Proofs.YtmpmfdghdaofhaaDoorW.PrintLast Go.Proofs.YtmpmfdghdaofhaaDoorW.PrintMore

theorem info98 : (Tryd.prog.info? 98).map (fun i => (i.zero, i.size, i.bytes)) = some (some (.int .i64 0), 1, 8) := by kernel_rfl

set_option maxHeartbeats 8000000 in
set_option maxRecDepth 100000 in
theorem params_ (w : World) (g gb gp gd : Nat) (dl cmd st p0 : Int) (h : PS w g gb gp gd dl 1 cmd st p0) :
    Calls Tryd.prog 35 #[.pointer (some ⟨g, 0, none⟩)] w fun e w' => ∃ v, e = .returned v ∧ Kd.R (Kd.int .i64) 98 w' w.heap.size (fun _ => True) v [p0] ∧ Below w.heap.size w w' := by
  have h12 : w.cell? ⟨g, 12, none⟩ = some (.int .i64 1) := (h.cell 12).trans rfl
  have H := Aside0.mk h
  clear h
  go_enter Tryd.func35, Tryd.ntmps35
  go_wp2_with (first | ((with_reducible refine gate_dst (N := 9) rfl ?_); refine Kd.R_make (Kd.int .i64) _ 98 rfl (N := 9) rfl 66 _ _ rfl (1 : Int) rfl rfl Tryd.underlying66 (.int .i64 0) 8 info98 rfl (by decide) (by omega) 0 (ok := fun _ => True) (okp := fun _ => True) rfl (fun _ hk => hk) trivial (by omega) (by decide) (Below.refl _ _) (Nat.le_refl _) ?_; intro v1 w1 ho hb hg_ hnew_; clear hg_ hnew_; obtain ⟨gq, cap, e1, hge, hlt, cells, hcs⟩ := Kd.R_form ho (by decide); subst e1; have HO := Aside0.mk (show Kd.R (Kd.int .i64) 98 w1 w.heap.size (fun _ => True) (.slice (some ⟨gq, 0, none⟩) 1 cap) [0] from ho); have HB := Aside0.mk hb; have HGE := Aside0.mk hge; have HCS := Aside0.mk hcs; clear ho hb hge hlt hcs) | fail)
  have fq := blk_frozen HCS.out 0
  have q9 : w1.cell? ⟨g, 9, none⟩ = some (.slice (some ⟨gp, 0, none⟩) 32 32) := ((H.out.far HB.out).cell 9).trans rfl
  have qp : w1.cell? ⟨gp, 0, none⟩ = some (.int .i64 p0) := (H.out.far HB.out).cellp
  have qz : w1.cell? ⟨gq, 0, none⟩ = some (.int .i64 0) := by
    obtain ⟨ad, e_, hx⟩ := Kd.at_int (Kd.R_reads' HO.out).2.2 0 (by decide) (by decide)
    cases e_
    exact hx
  refine wp_loop_rounds 2 ?_
  rw [rounds_succ]
  go_wp2_with fail
  rw [rounds_succ]
  go_wp2
  go_ret
  have hp := (Kd.R_put (enc := Value.int .i64) (h1 := fun _ => rfl) HO.out 0 p0).1
  exact ⟨_, rfl, hp, HB.out.setCell HGE.out _⟩

end Go.Proofs.YtmpmfdghdaofhaaDoor.Ma
