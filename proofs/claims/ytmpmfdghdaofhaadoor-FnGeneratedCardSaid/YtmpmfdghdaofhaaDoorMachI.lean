/- Feed at the five bytes of machineAwake, by hand. -/
import Derived.Test.YtmpmfdghdaofhaaDoorMachA
import Derived.Test.YtmpmfdghdaofhaaDoorMachH
namespace Go.Proofs.YtmpmfdghdaofhaaDoor.Ma
set_option linter.unusedVariables false
set_option linter.unusedSimpArgs false
open Go Go.RowKit Go.Proofs.YtmpmfdghdaofhaaDoorW.PrintWords Go.Proofs.YtmpmfdghdaofhaaDoorW.PrintLast Go.Proofs.YtmpmfdghdaofhaaDoorW.PrintMore

theorem own5 : Go.Proofs.YtmpmfdghdaofhaaDoor.PI.impl_own.f [27, 91, 49, 109, 65] = some [27, 91, 49, 109, 65] := by rfl
theorem Far.keep {W W' : World} {g gb gp gd k : Nat} {dl pl cmd st p0 : Int} {c : Array Value} {t : TypeId} (hf : Far W W' g gp) (h : PS W g gb gp gd dl pl cmd st p0) (hk : W.heap[k]? = some (.cells c t (0, 0))) (h94 : t ≠ 94) (h3 : t ≠ 3) : W'.heap[k]? = some (.cells c t (0, 0)) := by
  obtain ⟨h1, ps, _, _, h2⟩ := h
  exact (hf.2 k (blk_lt hk) (blk_ne hk h1 h94) (blk_ne hk h2 h3)).trans hk

/-- A row of bytes: block gq of type 5 holds it. -/
def Row5 (W : World) (gq : Nat) (cells : Array Value) : Prop := W.heap[gq]? = some (.cells cells 5 (0, 0))

set_option maxHeartbeats 8000000 in
set_option maxRecDepth 100000 in
theorem feed (w : World) (A : Option Addr) (c : Nat) (hr : Kd.C (Kd.int .u8) w A 5 [27, 91, 49, 109, 65]) (hc : 5 ≤ c) :
    Calls Tryd.prog 23 #[.int .i64 32, .int .i64 1024, .slice A 5 c] w fun e w' => ∃ (Ai : Option Addr) (ci : Nat) (v : Value), e = .returned v ∧ Kd.R (Kd.raw 6) 54 w' w.heap.size (fun _ => True) v [[.int .i64 2, .int .i64 0, .int .u8 0, .int .i64 109, .slice Ai 1 ci, .slice none 0 0], [.int .i64 0, .int .i64 65, .int .u8 0, .int .i64 0, .slice none 0 0, .slice none 0 0]] ∧ Below w.heap.size w w' := by
  have HR := Aside0.mk hr
  clear hr
  go_enter Tryd.func23, Tryd.ntmps23
  go_wp2_with fail
  refine (newParser_ w).mono ?_
  rintro e w1 ⟨g, gp, gd, rfl, hg, hgp, hK, hP, hb⟩
  have HG := Aside0.mk hg
  have HGP := Aside0.mk hgp
  have K1 := Aside0.mk hK
  have P1 := Aside0.mk hP
  have B1 := Aside0.mk hb
  clear hg hgp hK hP hb
  go_wp2_with (first | ((with_reducible refine gate_dst (N := 8) rfl ?_); refine box_event ?hg (N := 8) ?hd (cs := #[.slice none 0 0]) (t := 51) ?hr ?_; (case hd => rfl); (case hg => rfl); (case hr => first | (go_simp; done) | (go_simp; rfl)); intro go hgo w2 hbox hb2; have O2 := Aside0.mk hbox; have K2 := Aside0.mk ((hb2.block g (blk_lt K1.out)).trans K1.out); have P2 := Aside0.mk ((hb2.block gp (blk_lt P1.out)).trans P1.out); have GO := Aside0.mk (show w.heap.size ≤ go by rw [hgo]; exact B1.out.size); have B2 := Aside0.mk (below_step B1.out hb2); clear hbox hb2 hgo) | fail)
  refine (listen_ w2 w.heap.size g go gp gd K2.out HG.out B2.out.size).mono ?_
  rintro e w3 ⟨rfl, gb, h3, hpt3, hb3, hf3⟩
  have H3 := Aside0.mk (show PS w3 g gb gp gd 0 0 0 0 0 from ⟨h3, P32, P32_size, P32_0, hf3 _ _ _ P2.out (by decide)⟩)
  have T3 := Aside0.mk hpt3
  have O3 := Aside0.mk (hf3 _ _ _ O2.out (by decide))
  have B3 := Aside0.mk (B2.out.trans hb3)
  clear h3 hpt3 hb3 hf3
  go_wp2_with fail
  refine (Go.Proofs.YtmpmfdghdaofhaaDoor.PI.impl_own.calls A c [27, 91, 49, 109, 65] [27, 91, 49, 109, 65] w3 (Kd.C_below HR.out B3.out) hc own5).mono ?_
  rintro e w4 ⟨v4, rfl, hr4, hb4⟩
  obtain ⟨gq, cap, e4, hge, hlt, cells, hcs⟩ := Kd.R_form hr4 (by decide)
  subst e4
  have QC0 := Aside0.mk (show cells[0]? = some (.int .u8 27) from by
    obtain ⟨ad, e_, hx⟩ := Kd.at_int (Kd.R_reads' hr4).2.2 0 (by decide) (by decide)
    cases e_
    rw [← blk_cell hcs 0]
    exact hx)
  have QC1 := Aside0.mk (show cells[1]? = some (.int .u8 91) from by
    obtain ⟨ad, e_, hx⟩ := Kd.at_int (Kd.R_reads' hr4).2.2 1 (by decide) (by decide)
    cases e_
    rw [← blk_cell hcs 1]
    exact hx)
  have QC2 := Aside0.mk (show cells[2]? = some (.int .u8 49) from by
    obtain ⟨ad, e_, hx⟩ := Kd.at_int (Kd.R_reads' hr4).2.2 2 (by decide) (by decide)
    cases e_
    rw [← blk_cell hcs 2]
    exact hx)
  have QC3 := Aside0.mk (show cells[3]? = some (.int .u8 109) from by
    obtain ⟨ad, e_, hx⟩ := Kd.at_int (Kd.R_reads' hr4).2.2 3 (by decide) (by decide)
    cases e_
    rw [← blk_cell hcs 3]
    exact hx)
  have QC4 := Aside0.mk (show cells[4]? = some (.int .u8 65) from by
    obtain ⟨ad, e_, hx⟩ := Kd.at_int (Kd.R_reads' hr4).2.2 4 (by decide) (by decide)
    cases e_
    rw [← blk_cell hcs 4]
    exact hx)
  have Q4 := Aside0.mk hcs
  have H4 := Aside0.mk (H3.out.far hb4)
  have T4 := Aside0.mk (show Ptr w4 gb go from (hb4.block gb (blk_lt T3.out)).trans T3.out)
  have O4 := Aside0.mk ((hb4.block go (blk_lt O3.out)).trans O3.out)
  have B4 := Aside0.mk (below_step B3.out hb4)
  clear hr4 hb4 hge hlt hcs
  go_wp2_with fail
  refine wp_loop_rounds 6 ?_
  rw [rounds_succ]
  have q4_0 : w4.cell? ⟨gq, 0, none⟩ = some (.int .u8 27) := (blk_cell Q4.out 0).trans QC0.out
  have q4_1 : w4.cell? ⟨gq, 1, none⟩ = some (.int .u8 91) := (blk_cell Q4.out 1).trans QC1.out
  have q4_2 : w4.cell? ⟨gq, 2, none⟩ = some (.int .u8 49) := (blk_cell Q4.out 2).trans QC2.out
  have q4_3 : w4.cell? ⟨gq, 3, none⟩ = some (.int .u8 109) := (blk_cell Q4.out 3).trans QC3.out
  have q4_4 : w4.cell? ⟨gq, 4, none⟩ = some (.int .u8 65) := (blk_cell Q4.out 4).trans QC4.out
  go_wp2_with fail
  refine (advance_ w4 g 0 27 ((H4.out.cell 14).trans rfl) rfl _ (fun e w' h => ⟨_, h.1⟩) (adv_esc w4 w.heap.size g gb gp gd 0 0 0 0 H4.out HG.out HGP.out B4.out.size)).mono ?_
  rintro e w5 ⟨rfl, hp, hb, hf⟩
  have H5 := Aside0.mk hp
  have Q5 := Aside0.mk (hf.keep H4.out Q4.out (by decide) (by decide))
  have T5 := Aside0.mk (show Ptr w5 gb go from hf.keep H4.out T4.out (by decide) (by decide))
  have O5 := Aside0.mk (hf.keep H4.out O4.out (by decide) (by decide))
  have B5 := Aside0.mk (B4.out.trans hb)
  clear hp hb hf H4 Q4 T4 O4 B4 q4_0 q4_1 q4_2 q4_3 q4_4
  go_wp2_with fail
  rw [rounds_succ]
  have q5_0 : w5.cell? ⟨gq, 0, none⟩ = some (.int .u8 27) := (blk_cell Q5.out 0).trans QC0.out
  have q5_1 : w5.cell? ⟨gq, 1, none⟩ = some (.int .u8 91) := (blk_cell Q5.out 1).trans QC1.out
  have q5_2 : w5.cell? ⟨gq, 2, none⟩ = some (.int .u8 49) := (blk_cell Q5.out 2).trans QC2.out
  have q5_3 : w5.cell? ⟨gq, 3, none⟩ = some (.int .u8 109) := (blk_cell Q5.out 3).trans QC3.out
  have q5_4 : w5.cell? ⟨gq, 4, none⟩ = some (.int .u8 65) := (blk_cell Q5.out 4).trans QC4.out
  go_wp2_with fail
  refine (advance_ w5 g 8 91 ((H5.out.cell 14).trans rfl) rfl _ (fun e w' h => ⟨_, h.1⟩) (adv_br w5 w.heap.size g gb gp gd 0 0 0 2147483647 H5.out HG.out HGP.out B5.out.size)).mono ?_
  rintro e w6 ⟨rfl, hp, hb, hf⟩
  have H6 := Aside0.mk hp
  have Q6 := Aside0.mk (hf.keep H5.out Q5.out (by decide) (by decide))
  have T6 := Aside0.mk (show Ptr w6 gb go from hf.keep H5.out T5.out (by decide) (by decide))
  have O6 := Aside0.mk (hf.keep H5.out O5.out (by decide) (by decide))
  have B6 := Aside0.mk (B5.out.trans hb)
  clear hp hb hf H5 Q5 T5 O5 B5 q5_0 q5_1 q5_2 q5_3 q5_4
  go_wp2_with fail
  rw [rounds_succ]
  have q6_0 : w6.cell? ⟨gq, 0, none⟩ = some (.int .u8 27) := (blk_cell Q6.out 0).trans QC0.out
  have q6_1 : w6.cell? ⟨gq, 1, none⟩ = some (.int .u8 91) := (blk_cell Q6.out 1).trans QC1.out
  have q6_2 : w6.cell? ⟨gq, 2, none⟩ = some (.int .u8 49) := (blk_cell Q6.out 2).trans QC2.out
  have q6_3 : w6.cell? ⟨gq, 3, none⟩ = some (.int .u8 109) := (blk_cell Q6.out 3).trans QC3.out
  have q6_4 : w6.cell? ⟨gq, 4, none⟩ = some (.int .u8 65) := (blk_cell Q6.out 4).trans QC4.out
  go_wp2_with fail
  refine (advance_ w6 g 1 49 ((H6.out.cell 14).trans rfl) rfl _ (fun e w' h => ⟨_, h.1⟩) (adv_1 w6 w.heap.size g gb gp gd 0 0 H6.out HG.out HGP.out B6.out.size)).mono ?_
  rintro e w7 ⟨rfl, hp, hb, hf⟩
  have H7 := Aside0.mk hp
  have Q7 := Aside0.mk (hf.keep H6.out Q6.out (by decide) (by decide))
  have T7 := Aside0.mk (show Ptr w7 gb go from hf.keep H6.out T6.out (by decide) (by decide))
  have O7 := Aside0.mk (hf.keep H6.out O6.out (by decide) (by decide))
  have B7 := Aside0.mk (B6.out.trans hb)
  clear hp hb hf H6 Q6 T6 O6 B6 q6_0 q6_1 q6_2 q6_3 q6_4
  go_wp2_with fail
  rw [rounds_succ]
  have q7_0 : w7.cell? ⟨gq, 0, none⟩ = some (.int .u8 27) := (blk_cell Q7.out 0).trans QC0.out
  have q7_1 : w7.cell? ⟨gq, 1, none⟩ = some (.int .u8 91) := (blk_cell Q7.out 1).trans QC1.out
  have q7_2 : w7.cell? ⟨gq, 2, none⟩ = some (.int .u8 49) := (blk_cell Q7.out 2).trans QC2.out
  have q7_3 : w7.cell? ⟨gq, 3, none⟩ = some (.int .u8 109) := (blk_cell Q7.out 3).trans QC3.out
  have q7_4 : w7.cell? ⟨gq, 4, none⟩ = some (.int .u8 65) := (blk_cell Q7.out 4).trans QC4.out
  go_wp2_with fail
  refine (advance_ w7 g 3 109 ((H7.out.cell 14).trans rfl) rfl _ (fun e w' h => ⟨_, h.1⟩) (adv_m w7 w.heap.size g gb gp gd go [] H7.out HG.out HGP.out B7.out.size GO.out (by decide) T7.out ⟨_, O7.out, Kd.R_nil _ _ _ _ _⟩)).mono ?_
  rintro e w8 ⟨rfl, ⟨Ai, ci, ho⟩, hp, hpt, hb, hu⟩
  have H8 := Aside0.mk hp
  have T8 := Aside0.mk hpt
  have O8 := Aside0.mk ho
  have Q8 := Aside0.mk (hu _ _ _ Q7.out (by decide) (by decide) (by decide) (by decide))
  have B8 := Aside0.mk (B7.out.trans hb)
  clear hp hpt ho hb hu H7 Q7 T7 O7 B7 q7_0 q7_1 q7_2 q7_3 q7_4
  go_wp2_with fail
  rw [rounds_succ]
  have q8_0 : w8.cell? ⟨gq, 0, none⟩ = some (.int .u8 27) := (blk_cell Q8.out 0).trans QC0.out
  have q8_1 : w8.cell? ⟨gq, 1, none⟩ = some (.int .u8 91) := (blk_cell Q8.out 1).trans QC1.out
  have q8_2 : w8.cell? ⟨gq, 2, none⟩ = some (.int .u8 49) := (blk_cell Q8.out 2).trans QC2.out
  have q8_3 : w8.cell? ⟨gq, 3, none⟩ = some (.int .u8 109) := (blk_cell Q8.out 3).trans QC3.out
  have q8_4 : w8.cell? ⟨gq, 4, none⟩ = some (.int .u8 65) := (blk_cell Q8.out 4).trans QC4.out
  go_wp2_with fail
  refine (advance_ w8 g 0 65 ((H8.out.cell 14).trans rfl) rfl _ (fun e w' h => ⟨_, h.1⟩) (adv_a w8 w.heap.size g gb gp gd go 0 1 109 1 _ H8.out HG.out HGP.out B8.out.size GO.out (by simp) T8.out O8.out)).mono ?_
  rintro e w9 ⟨rfl, hp, hpt, ⟨v9, hg9, hr9⟩, hb⟩
  obtain ⟨A9, c9, rfl⟩ := Kd.R_slice hr9
  have h9 : w9.cell? ⟨go, 0, none⟩ = some (.slice A9 2 c9) := (blk_cell hg9 0).trans rfl
  have R9 := Aside0.mk hr9
  have B9 := Aside0.mk (B8.out.trans hb)
  clear hp hpt hg9 hr9 hb
  go_wp2_with fail
  rw [rounds_succ]
  go_wp2
  go_ret
  exact ⟨Ai, ci, _, rfl, R9.out, B9.out⟩

end Go.Proofs.YtmpmfdghdaofhaaDoor.Ma
