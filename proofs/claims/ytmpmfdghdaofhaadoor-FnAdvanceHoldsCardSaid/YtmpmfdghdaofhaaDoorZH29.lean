/- Texts of this claim, joined; what isn't needed is left out (wip/slim.py). -/
import Derived.Test.YtmpmfdghdaofhaaDoorZH16
import Derived.Test.YtmpmfdghdaofhaaDoorZH27
import Derived.Laws.CopyRow
import Derived.Laws.CopyOwn
import Derived.Laws.Tables
import Derived.Test.YtmpmfdghdaofhaaDoorZH28
namespace Go.Proofs.YtmpmfdghdaofhaaDoor.Ma
set_option linter.unusedVariables false
set_option linter.unusedSimpArgs false
open Go Go.RowKit Go.Proofs.YtmpmfdghdaofhaaDoorW.PrintWords Go.Proofs.YtmpmfdghdaofhaaDoorW.PrintLast Go.Proofs.YtmpmfdghdaofhaaDoorW.PrintMore
theorem run_part {P : Program} (w : World) (g : Nat) (t ty : TypeId) (old cells : Array Value) (hg : w.heap[g]? = some (.cells old t (0, 0))) (hi : (P.info? ty).map (·.size) = some cells.size)
    (hle : cells.size ≤ old.size) (h1 : cells.all (·.oneCell') = true) :
    (storeVar ty ⟨g, 0, none⟩ (.agg cells)).run P w = .ok () (w.setRow g (cells.toList ++ old.toList.drop cells.size).toArray) := by
  have := run_storeCells_at (P := P) g 0 t cells.toList 0 old w hg (by simp; omega) (fun v hv => (Array.all_eq_true_iff_forall_mem.1 h1) v (by simpa using hv))
  cases hq : P.info? ty with
  | none => simp [hq] at hi
  | some i =>
    have hs : cells.size = i.size := by simp [hq] at hi; omega
    simp at this
    simp [storeVar, sizeOf, typeInfo, hq, Value.cells, hs, this]
theorem wpl_part {P : Program} {ops : Array Oper} {rest : List Oper} {o : Oper} {a : Act} {w : World} {Q : Exit → Act → World → Prop} (hgd : o.guard = none) (ty : TypeId) (x y : Operand) (ho : o.op = .store ty x y)
    (g : Nat) (cells : Array Value) (hx : a.eval x = .pointer (some ⟨g, 0, none⟩)) (hy : a.eval y = .agg cells)
    (t : TypeId) (old : Array Value) (hg : w.heap[g]? = some (.cells old t (0, 0))) (hi : (P.info? ty).map (·.size) = some cells.size)
    (hle : cells.size ≤ old.size) (h1 : cells.all (·.oneCell') = true)
    (h : wpList P ops Q rest (a.put o.dst undef) (w.setRow g (cells.toList ++ old.toList.drop cells.size).toArray)) : wpList P ops Q (o :: rest) a w := by
  refine wpList_plain hgd fun K hK => ?_
  unfold Oper.wp execOp
  simp only [ho, hx, hy, Instr.storeAt, Instr.sureAddr, Sem.run_bind, Sem.run_pure, Result.andThen_ok, run_part w g t ty old cells hg hi hle h1]
  exact hK _ _ h
set_option maxHeartbeats 8000000 in
set_option maxRecDepth 100000 in
theorem setHandler (w : World) (B g gb gp gd : Nat) (h : w.heap[g]? = some (.cells (cs0 gp gd) 94 (0, 0))) (hg : B ≤ g) (hbase : B ≤ w.heap.size) :
    Calls Tryd.prog 57 #[.pointer (some ⟨g, 0, none⟩), .agg #[.func (.func 58) #[] #[.pointer (some ⟨gb, 0, none⟩)], .func (.func 59) #[] #[.pointer (some ⟨gb, 0, none⟩)], .func (.func 60) #[] #[.pointer (some ⟨gb, 0, none⟩)], .func (.func 61) #[] #[.pointer (some ⟨gb, 0, none⟩)], .func (.func 62) #[] #[.pointer (some ⟨gb, 0, none⟩)], .func (.func 63) #[] #[.pointer (some ⟨gb, 0, none⟩)], .func (.func 64) #[] #[.pointer (some ⟨gb, 0, none⟩)], .func (.func 65) #[] #[.pointer (some ⟨gb, 0, none⟩)], .func (.func 66) #[] #[.pointer (some ⟨gb, 0, none⟩)]]] w fun e w' => e = .returned (.tuple #[]) ∧ w'.heap[g]? = some (.cells (cs gb gp gd 0 0 0 0) 94 (0, 0)) ∧ Below B w w' ∧ (∀ (k : Nat) (t : TypeId) (cc : Array Value), w.heap[k]? = some (.cells cc t (0, 0)) → t ≠ 94 → w'.heap[k]? = some (.cells cc t (0, 0))) := by
  have HG := Aside0.mk h
  have HBS := Aside0.mk hbase
  have HF := Aside0.mk (show ∀ (k : Nat) (t : TypeId) (cc : Array Value), w.heap[k]? = some (.cells cc t (0, 0)) → t ≠ 94 → k ≠ g from fun k t cc hk ht e => by subst e; rw [h] at hk; simp at hk; exact ht hk.2.symm)
  clear h hbase
  go_enter Tryd.func57, Tryd.ntmps57
  go_wp2_with (first | ((with_reducible refine gate_dst (N := 3) rfl ?_); refine box_event ?hg (N := 3) ?hd (cs := #[.func (.func 58) #[] #[.pointer (some ⟨gb, 0, none⟩)], .func (.func 59) #[] #[.pointer (some ⟨gb, 0, none⟩)], .func (.func 60) #[] #[.pointer (some ⟨gb, 0, none⟩)], .func (.func 61) #[] #[.pointer (some ⟨gb, 0, none⟩)], .func (.func 62) #[] #[.pointer (some ⟨gb, 0, none⟩)], .func (.func 63) #[] #[.pointer (some ⟨gb, 0, none⟩)], .func (.func 64) #[] #[.pointer (some ⟨gb, 0, none⟩)], .func (.func 65) #[] #[.pointer (some ⟨gb, 0, none⟩)], .func (.func 66) #[] #[.pointer (some ⟨gb, 0, none⟩)]]) (t := 91) ?hr ?_; (case hd => rfl); (case hg => rfl); (case hr => first | (go_simp; done) | (go_simp; rfl)); intro g1 hg1 w2 hbox1 hb1; have BK1 := Aside0.mk hbox1; have HB1 := Aside0.mk hb1; have HG2 := Aside0.mk ((hb1.block g (blk_lt HG.out)).trans HG.out); clear hbox1 hb1 hg1) | ((with_reducible refine gate_dst (N := 5) rfl ?_); refine wpList_load_row rfl 91 (.tmp 3) rfl g1 rfl 91 #[.func (.func 58) #[] #[.pointer (some ⟨gb, 0, none⟩)], .func (.func 59) #[] #[.pointer (some ⟨gb, 0, none⟩)], .func (.func 60) #[] #[.pointer (some ⟨gb, 0, none⟩)], .func (.func 61) #[] #[.pointer (some ⟨gb, 0, none⟩)], .func (.func 62) #[] #[.pointer (some ⟨gb, 0, none⟩)], .func (.func 63) #[] #[.pointer (some ⟨gb, 0, none⟩)], .func (.func 64) #[] #[.pointer (some ⟨gb, 0, none⟩)], .func (.func 65) #[] #[.pointer (some ⟨gb, 0, none⟩)], .func (.func 66) #[] #[.pointer (some ⟨gb, 0, none⟩)]] (0, 0) _ BK1.out Tryd.underlying91 rfl (by kernel_rfl) ?_) | ((with_reducible refine gate_store (t := 91) (p := 7) (v := .tmp 5) rfl ?_); refine wpl_part rfl 91 (.tmp 7) (.tmp 5) rfl g #[.func (.func 58) #[] #[.pointer (some ⟨gb, 0, none⟩)], .func (.func 59) #[] #[.pointer (some ⟨gb, 0, none⟩)], .func (.func 60) #[] #[.pointer (some ⟨gb, 0, none⟩)], .func (.func 61) #[] #[.pointer (some ⟨gb, 0, none⟩)], .func (.func 62) #[] #[.pointer (some ⟨gb, 0, none⟩)], .func (.func 63) #[] #[.pointer (some ⟨gb, 0, none⟩)], .func (.func 64) #[] #[.pointer (some ⟨gb, 0, none⟩)], .func (.func 65) #[] #[.pointer (some ⟨gb, 0, none⟩)], .func (.func 66) #[] #[.pointer (some ⟨gb, 0, none⟩)]] rfl rfl 94 (cs0 gp gd) HG2.out (by kernel_rfl) (show 9 ≤ 15 by omega) (by kernel_rfl) ?_) | fail)
  go_end0
  refine ⟨rfl, ?_, ?_, ?_⟩
  · exact (setRow_heap w2 g _ _ _ _ HG2.out).trans rfl
  · exact below_setRow (HB1.out.mono HBS.out) hg _
  · exact fun k t cc hk ht => (setRow_other w2 g k _ (HF.out k t cc hk ht)).trans ((HB1.out.block k (blk_lt hk)).trans hk)
theorem wpList_build_ {P : Program} {ops : Array Oper} {rest : List Oper} {o : Oper} {a : Act} {w : World} {Q : Exit → Act → World → Prop} (hg : o.guard = none) (t : TypeId) (parts : Array (Nat × Operand)) (cells : Array Value) (ho : o.op = .build t parts)
    (hc : P.built t (parts.map fun (i, x) => (i, a.eval x)).toList = some cells) (h : wpList P ops Q rest (a.put o.dst (.agg cells)) w) : wpList P ops Q (o :: rest) a w := by
  refine wpList_build hg t parts ho (by rw [hc]; rfl) ?_
  rw [hc]
  exact h
set_option maxHeartbeats 8000000 in
set_option maxRecDepth 100000 in
theorem listen_ (w : World) (B g go gp gd : Nat) (h : w.heap[g]? = some (.cells (cs0 gp gd) 94 (0, 0))) (hg : B ≤ g) (hbase : B ≤ w.heap.size) :
    Calls Tryd.prog 41 #[.pointer (some ⟨g, 0, none⟩), .pointer (some ⟨go, 0, none⟩)] w fun e w' => e = .returned (.tuple #[]) ∧ ∃ gb, w'.heap[g]? = some (.cells (cs gb gp gd 0 0 0 0) 94 (0, 0)) ∧ Ptr w' gb go ∧ Below B w w' ∧ (∀ (k : Nat) (t : TypeId) (cc : Array Value), w.heap[k]? = some (.cells cc t (0, 0)) → t ≠ 94 → w'.heap[k]? = some (.cells cc t (0, 0))) := by
  have hmf : ∀ (fn : Fn) (first cap : Array Value) (w : World), (Instr.makeFunc fn first cap).run Tryd.prog w = .ok (.func fn first cap) w := fun _ _ _ _ => rfl
  have HG := Aside0.mk h
  have HBS := Aside0.mk hbase
  clear h hbase
  go_enter Tryd.func41, Tryd.ntmps41
  go_wp2_with (first | ((with_reducible refine gate_dst (N := 3) rfl ?_); refine box_event ?hg (N := 3) ?hd (cs := #[.pointer (some ⟨go, 0, none⟩)]) (t := 75) ?hr ?_; (case hd => rfl); (case hg => rfl); (case hr => first | (go_simp; done) | (go_simp; rfl)); intro gb hgb w2 hbox hb1; have BK1 := Aside0.mk hbox; have HB1 := Aside0.mk hb1; have HG2 := Aside0.mk ((hb1.block g (blk_lt HG.out)).trans HG.out); clear hbox hb1 hgb) | ((with_reducible refine gate_dst (N := 14) rfl ?_); refine wpList_build_ rfl 91 _ #[.func (.func 58) #[] #[.pointer (some ⟨gb, 0, none⟩)], .func (.func 59) #[] #[.pointer (some ⟨gb, 0, none⟩)], .func (.func 60) #[] #[.pointer (some ⟨gb, 0, none⟩)], .func (.func 61) #[] #[.pointer (some ⟨gb, 0, none⟩)], .func (.func 62) #[] #[.pointer (some ⟨gb, 0, none⟩)], .func (.func 63) #[] #[.pointer (some ⟨gb, 0, none⟩)], .func (.func 64) #[] #[.pointer (some ⟨gb, 0, none⟩)], .func (.func 65) #[] #[.pointer (some ⟨gb, 0, none⟩)], .func (.func 66) #[] #[.pointer (some ⟨gb, 0, none⟩)]] rfl (by kernel_rfl) ?_) | fail)
  refine (setHandler w2 B g gb gp gd HG2.out hg (Nat.le_trans HBS.out HB1.out.size)).mono ?_
  rintro e w3 ⟨rfl, h3, hb3, hf3⟩
  go_wp2
  go_end0
  exact ⟨rfl, gb, h3, hf3 _ _ _ BK1.out (by decide), (HB1.out.mono HBS.out).trans hb3, fun k t cc hk ht => hf3 k t cc ((HB1.out.block k (blk_lt hk)).trans hk) ht⟩
end Go.Proofs.YtmpmfdghdaofhaaDoor.Ma

namespace Go.Proofs.YtmpmfdghdaofhaaDoor.Ma
set_option linter.unusedVariables false
set_option linter.unusedSimpArgs false
open Go Go.RowKit Go.Proofs.YtmpmfdghdaofhaaDoorW.PrintWords Go.Proofs.YtmpmfdghdaofhaaDoorW.PrintLast Go.Proofs.YtmpmfdghdaofhaaDoorW.PrintMore
theorem own5 : Go.Proofs.YtmpmfdghdaofhaaDoor.PI.impl_own.f [27, 91, 49, 109, 65] = some [27, 91, 49, 109, 65] := by rfl
theorem Far.keep {W W' : World} {g gb gp gd k : Nat} {dl pl cmd st p0 : Int} {c : Array Value} {t : TypeId} (hf : Far W W' g gp) (h : PS W g gb gp gd dl pl cmd st p0) (hk : W.heap[k]? = some (.cells c t (0, 0))) (h94 : t ≠ 94) (h3 : t ≠ 3) : W'.heap[k]? = some (.cells c t (0, 0)) := by
  obtain ⟨h1, ps, _, _, h2⟩ := h
  exact (hf.2 k (blk_lt hk) (blk_ne hk h1 h94) (blk_ne hk h2 h3)).trans hk
set_option maxHeartbeats 8000000 in
set_option maxRecDepth 100000 in
theorem feed (w : World) (A : Option Addr) (c : Nat) (hr : Kd.C (Kd.int .u8) w A 5 [27, 91, 49, 109, 65]) (hc : 5 ≤ c) :
    Calls Tryd.prog 23 #[.int .i64 32, .int .i64 1024, .slice A 5 c] w fun e w' => ∃ (Ai : Option Addr) (ci : Nat) (v : Value), e = .returned v ∧ Kd.R (Kd.raw 6) 54 w' w.heap.size (fun _ => True) v [[.int .i64 2, .int .i64 0, .int .u8 0, .int .i64 109, .slice Ai 1 ci, .slice none 0 0], [.int .i64 0, .int .i64 65, .int .u8 0, .int .i64 0, .slice none 0 0, .slice none 0 0]] ∧ Below w.heap.size w w' := by
  have HR := Aside0.mk hr
  clear hr
  go_enter Tryd.func23, Tryd.ntmps23
  go_wp2_with fail
  refine (newParser_ w).mono ?_
  rintro e w1 ⟨g, gp, gd, rfl, hg, hgp, hK, hP, hb⟩
  have HG := Aside0.mk hg
  have HGP := Aside0.mk hgp
  have K1 := Aside0.mk hK
  have P1 := Aside0.mk hP
  have B1 := Aside0.mk hb
  clear hg hgp hK hP hb
  go_wp2_with (first | ((with_reducible refine gate_dst (N := 8) rfl ?_); refine box_event ?hg (N := 8) ?hd (cs := #[.slice none 0 0]) (t := 51) ?hr ?_; (case hd => rfl); (case hg => rfl); (case hr => first | (go_simp; done) | (go_simp; rfl)); intro go hgo w2 hbox hb2; have O2 := Aside0.mk hbox; have K2 := Aside0.mk ((hb2.block g (blk_lt K1.out)).trans K1.out); have P2 := Aside0.mk ((hb2.block gp (blk_lt P1.out)).trans P1.out); have GO := Aside0.mk (show w.heap.size ≤ go by rw [hgo]; exact B1.out.size); have B2 := Aside0.mk (below_step B1.out hb2); clear hbox hb2 hgo) | fail)
  refine (listen_ w2 w.heap.size g go gp gd K2.out HG.out B2.out.size).mono ?_
  rintro e w3 ⟨rfl, gb, h3, hpt3, hb3, hf3⟩
  have H3 := Aside0.mk (show PS w3 g gb gp gd 0 0 0 0 0 from ⟨h3, P32, P32_size, P32_0, hf3 _ _ _ P2.out (by decide)⟩)
  have T3 := Aside0.mk hpt3
  have O3 := Aside0.mk (hf3 _ _ _ O2.out (by decide))
  have B3 := Aside0.mk (B2.out.trans hb3)
  clear h3 hpt3 hb3 hf3
  go_wp2_with fail
  refine (Go.Proofs.YtmpmfdghdaofhaaDoor.PI.impl_own.calls A c [27, 91, 49, 109, 65] [27, 91, 49, 109, 65] w3 (Kd.C_below HR.out B3.out) hc own5).mono ?_
  rintro e w4 ⟨v4, rfl, hr4, hb4⟩
  obtain ⟨gq, cap, e4, hge, hlt, cells, hcs⟩ := Kd.R_form hr4 (by decide)
  subst e4
  have QC0 := Aside0.mk (show cells[0]? = some (.int .u8 27) from by
    obtain ⟨ad, e_, hx⟩ := Kd.at_int (Kd.R_reads' hr4).2.2 0 (by decide) (by decide)
    cases e_
    rw [← blk_cell hcs 0]
    exact hx)
  have QC1 := Aside0.mk (show cells[1]? = some (.int .u8 91) from by
    obtain ⟨ad, e_, hx⟩ := Kd.at_int (Kd.R_reads' hr4).2.2 1 (by decide) (by decide)
    cases e_
    rw [← blk_cell hcs 1]
    exact hx)
  have QC2 := Aside0.mk (show cells[2]? = some (.int .u8 49) from by
    obtain ⟨ad, e_, hx⟩ := Kd.at_int (Kd.R_reads' hr4).2.2 2 (by decide) (by decide)
    cases e_
    rw [← blk_cell hcs 2]
    exact hx)
  have QC3 := Aside0.mk (show cells[3]? = some (.int .u8 109) from by
    obtain ⟨ad, e_, hx⟩ := Kd.at_int (Kd.R_reads' hr4).2.2 3 (by decide) (by decide)
    cases e_
    rw [← blk_cell hcs 3]
    exact hx)
  have QC4 := Aside0.mk (show cells[4]? = some (.int .u8 65) from by
    obtain ⟨ad, e_, hx⟩ := Kd.at_int (Kd.R_reads' hr4).2.2 4 (by decide) (by decide)
    cases e_
    rw [← blk_cell hcs 4]
    exact hx)
  have Q4 := Aside0.mk hcs
  have H4 := Aside0.mk (H3.out.far hb4)
  have T4 := Aside0.mk (show Ptr w4 gb go from (hb4.block gb (blk_lt T3.out)).trans T3.out)
  have O4 := Aside0.mk ((hb4.block go (blk_lt O3.out)).trans O3.out)
  have B4 := Aside0.mk (below_step B3.out hb4)
  clear hr4 hb4 hge hlt hcs
  go_wp2_with fail
  refine wp_loop_rounds 6 ?_
  rw [rounds_succ]
  have q4_0 : w4.cell? ⟨gq, 0, none⟩ = some (.int .u8 27) := (blk_cell Q4.out 0).trans QC0.out
  have q4_1 : w4.cell? ⟨gq, 1, none⟩ = some (.int .u8 91) := (blk_cell Q4.out 1).trans QC1.out
  have q4_2 : w4.cell? ⟨gq, 2, none⟩ = some (.int .u8 49) := (blk_cell Q4.out 2).trans QC2.out
  have q4_3 : w4.cell? ⟨gq, 3, none⟩ = some (.int .u8 109) := (blk_cell Q4.out 3).trans QC3.out
  have q4_4 : w4.cell? ⟨gq, 4, none⟩ = some (.int .u8 65) := (blk_cell Q4.out 4).trans QC4.out
  go_wp2_with fail
  refine (advance_ w4 g 0 27 ((H4.out.cell 14).trans rfl) rfl _ (fun e w' h => ⟨_, h.1⟩) (adv_esc w4 w.heap.size g gb gp gd 0 0 0 0 H4.out HG.out HGP.out B4.out.size)).mono ?_
  rintro e w5 ⟨rfl, hp, hb, hf⟩
  have H5 := Aside0.mk hp
  have Q5 := Aside0.mk (hf.keep H4.out Q4.out (by decide) (by decide))
  have T5 := Aside0.mk (show Ptr w5 gb go from hf.keep H4.out T4.out (by decide) (by decide))
  have O5 := Aside0.mk (hf.keep H4.out O4.out (by decide) (by decide))
  have B5 := Aside0.mk (B4.out.trans hb)
  clear hp hb hf H4 Q4 T4 O4 B4 q4_0 q4_1 q4_2 q4_3 q4_4
  go_wp2_with fail
  rw [rounds_succ]
  have q5_0 : w5.cell? ⟨gq, 0, none⟩ = some (.int .u8 27) := (blk_cell Q5.out 0).trans QC0.out
  have q5_1 : w5.cell? ⟨gq, 1, none⟩ = some (.int .u8 91) := (blk_cell Q5.out 1).trans QC1.out
  have q5_2 : w5.cell? ⟨gq, 2, none⟩ = some (.int .u8 49) := (blk_cell Q5.out 2).trans QC2.out
  have q5_3 : w5.cell? ⟨gq, 3, none⟩ = some (.int .u8 109) := (blk_cell Q5.out 3).trans QC3.out
  have q5_4 : w5.cell? ⟨gq, 4, none⟩ = some (.int .u8 65) := (blk_cell Q5.out 4).trans QC4.out
  go_wp2_with fail
  refine (advance_ w5 g 8 91 ((H5.out.cell 14).trans rfl) rfl _ (fun e w' h => ⟨_, h.1⟩) (adv_br w5 w.heap.size g gb gp gd 0 0 0 2147483647 H5.out HG.out HGP.out B5.out.size)).mono ?_
  rintro e w6 ⟨rfl, hp, hb, hf⟩
  have H6 := Aside0.mk hp
  have Q6 := Aside0.mk (hf.keep H5.out Q5.out (by decide) (by decide))
  have T6 := Aside0.mk (show Ptr w6 gb go from hf.keep H5.out T5.out (by decide) (by decide))
  have O6 := Aside0.mk (hf.keep H5.out O5.out (by decide) (by decide))
  have B6 := Aside0.mk (B5.out.trans hb)
  clear hp hb hf H5 Q5 T5 O5 B5 q5_0 q5_1 q5_2 q5_3 q5_4
  go_wp2_with fail
  rw [rounds_succ]
  have q6_0 : w6.cell? ⟨gq, 0, none⟩ = some (.int .u8 27) := (blk_cell Q6.out 0).trans QC0.out
  have q6_1 : w6.cell? ⟨gq, 1, none⟩ = some (.int .u8 91) := (blk_cell Q6.out 1).trans QC1.out
  have q6_2 : w6.cell? ⟨gq, 2, none⟩ = some (.int .u8 49) := (blk_cell Q6.out 2).trans QC2.out
  have q6_3 : w6.cell? ⟨gq, 3, none⟩ = some (.int .u8 109) := (blk_cell Q6.out 3).trans QC3.out
  have q6_4 : w6.cell? ⟨gq, 4, none⟩ = some (.int .u8 65) := (blk_cell Q6.out 4).trans QC4.out
  go_wp2_with fail
  refine (advance_ w6 g 1 49 ((H6.out.cell 14).trans rfl) rfl _ (fun e w' h => ⟨_, h.1⟩) (adv_1 w6 w.heap.size g gb gp gd 0 0 H6.out HG.out HGP.out B6.out.size)).mono ?_
  rintro e w7 ⟨rfl, hp, hb, hf⟩
  have H7 := Aside0.mk hp
  have Q7 := Aside0.mk (hf.keep H6.out Q6.out (by decide) (by decide))
  have T7 := Aside0.mk (show Ptr w7 gb go from hf.keep H6.out T6.out (by decide) (by decide))
  have O7 := Aside0.mk (hf.keep H6.out O6.out (by decide) (by decide))
  have B7 := Aside0.mk (B6.out.trans hb)
  clear hp hb hf H6 Q6 T6 O6 B6 q6_0 q6_1 q6_2 q6_3 q6_4
  go_wp2_with fail
  rw [rounds_succ]
  have q7_0 : w7.cell? ⟨gq, 0, none⟩ = some (.int .u8 27) := (blk_cell Q7.out 0).trans QC0.out
  have q7_1 : w7.cell? ⟨gq, 1, none⟩ = some (.int .u8 91) := (blk_cell Q7.out 1).trans QC1.out
  have q7_2 : w7.cell? ⟨gq, 2, none⟩ = some (.int .u8 49) := (blk_cell Q7.out 2).trans QC2.out
  have q7_3 : w7.cell? ⟨gq, 3, none⟩ = some (.int .u8 109) := (blk_cell Q7.out 3).trans QC3.out
  have q7_4 : w7.cell? ⟨gq, 4, none⟩ = some (.int .u8 65) := (blk_cell Q7.out 4).trans QC4.out
  go_wp2_with fail
  refine (advance_ w7 g 3 109 ((H7.out.cell 14).trans rfl) rfl _ (fun e w' h => ⟨_, h.1⟩) (adv_m w7 w.heap.size g gb gp gd go [] H7.out HG.out HGP.out B7.out.size GO.out (by decide) T7.out ⟨_, O7.out, Kd.R_nil _ _ _ _ _⟩)).mono ?_
  rintro e w8 ⟨rfl, ⟨Ai, ci, ho⟩, hp, hpt, hb, hu⟩
  have H8 := Aside0.mk hp
  have T8 := Aside0.mk hpt
  have O8 := Aside0.mk ho
  have Q8 := Aside0.mk (hu _ _ _ Q7.out (by decide) (by decide) (by decide) (by decide))
  have B8 := Aside0.mk (B7.out.trans hb)
  clear hp hpt ho hb hu H7 Q7 T7 O7 B7 q7_0 q7_1 q7_2 q7_3 q7_4
  go_wp2_with fail
  rw [rounds_succ]
  have q8_0 : w8.cell? ⟨gq, 0, none⟩ = some (.int .u8 27) := (blk_cell Q8.out 0).trans QC0.out
  have q8_1 : w8.cell? ⟨gq, 1, none⟩ = some (.int .u8 91) := (blk_cell Q8.out 1).trans QC1.out
  have q8_2 : w8.cell? ⟨gq, 2, none⟩ = some (.int .u8 49) := (blk_cell Q8.out 2).trans QC2.out
  have q8_3 : w8.cell? ⟨gq, 3, none⟩ = some (.int .u8 109) := (blk_cell Q8.out 3).trans QC3.out
  have q8_4 : w8.cell? ⟨gq, 4, none⟩ = some (.int .u8 65) := (blk_cell Q8.out 4).trans QC4.out
  go_wp2_with fail
  refine (advance_ w8 g 0 65 ((H8.out.cell 14).trans rfl) rfl _ (fun e w' h => ⟨_, h.1⟩) (adv_a w8 w.heap.size g gb gp gd go 0 1 109 1 _ H8.out HG.out HGP.out B8.out.size GO.out (by simp) T8.out O8.out)).mono ?_
  rintro e w9 ⟨rfl, hp, hpt, ⟨v9, hg9, hr9⟩, hb⟩
  obtain ⟨A9, c9, rfl⟩ := Kd.R_slice hr9
  have h9 : w9.cell? ⟨go, 0, none⟩ = some (.slice A9 2 c9) := (blk_cell hg9 0).trans rfl
  have R9 := Aside0.mk hr9
  have B9 := Aside0.mk (B8.out.trans hb)
  clear hp hpt hg9 hr9 hb
  go_wp2_with fail
  rw [rounds_succ]
  go_wp2
  go_ret
  exact ⟨Ai, ci, _, rfl, R9.out, B9.out⟩
end Go.Proofs.YtmpmfdghdaofhaaDoor.Ma

namespace Go.Proofs.YtmpmfdghdaofhaaDoor.Ma
set_option linter.unusedVariables false
set_option linter.unusedSimpArgs false
open Go Go.RowKit Go.Proofs.YtmpmfdghdaofhaaDoorW.PrintWords Go.Proofs.YtmpmfdghdaofhaaDoorW.PrintLast Go.Proofs.YtmpmfdghdaofhaaDoorW.PrintMore
theorem raw_at {W : World} {g : Nat} {xs : List (List Value)} (h : Kd.C (Kd.raw 6) W (some ⟨g, 0, none⟩) xs.length xs) (i : Int) (x : List Value) (h0 : 0 ≤ i) (h1 : i < xs.length) (hx : xs.getD i.toNat [] = x) (j : Nat) (u : Value) (hu : x[j]? = some u) :
    W.cell? ((⟨g, 0, none⟩ : Addr).add (i.toNat * 6 + j)) = some u := by
  obtain ⟨ad, c, e, _, hK, hc⟩ := Kd.C_get h ([] : List Value) i h0 h1
  cases e
  obtain ⟨rfl, _⟩ := hK
  exact hc j u (by rw [hx]; exact hu)
set_option maxHeartbeats 8000000 in
set_option maxRecDepth 100000 in
theorem awake_ (w : World) : Calls Tryd.prog 9 #[] w fun e w' => e = .returned (.bool true) ∧ Below w.heap.size w w' := by
  have hcv := Lib.run_convert_bytes_const (P := Tryd.prog) w 27 5 #[.int .u8 27, .int .u8 91, .int .u8 49, .int .u8 109, .int .u8 65] 5 5 Tryd.underlying27 Tryd.underlying5
  have HC := Aside0.mk (Ext.C_lit w [27, 91, 49, 109, 65] #[.int .u8 27, .int .u8 91, .int .u8 49, .int .u8 109, .int .u8 65] 5 (5, 6) rfl (by decide))
  go_enter Tryd.func9, Tryd.ntmps9
  go_wp2_with fail
  refine (feed _ _ 5 HC.out (by omega)).mono ?_
  rintro e w3 ⟨Ai, ci, v3, rfl, hr3, hb3⟩
  obtain ⟨g9, cap, e9, _, _, _, _⟩ := Kd.R_form hr3 (by simp)
  subst e9
  have hC := (Kd.R_reads' hr3).2.2
  have q0 : w3.cell? ⟨g9, 0, none⟩ = some (.int .i64 2) := raw_at hC 0 _ (by omega) (by simp) rfl 0 _ rfl
  have q3 : w3.cell? ⟨g9, 3, none⟩ = some (.int .i64 109) := by
    have h := raw_at hC 0 _ (by omega) (by simp) rfl 3 _ rfl
    simpa [Addr.add] using h
  have q7 : w3.cell? ⟨g9, 7, none⟩ = some (.int .i64 65) := by
    have h := raw_at hC 1 _ (by omega) (by simp) rfl 1 _ rfl
    simpa [Addr.add] using h
  have HB := Aside0.mk hb3
  clear hC hr3 hb3
  go_wp2
  go_ret
  exact ⟨rfl, (below_alloc (Below.refl _ w) _).trans (HB.out.mono (below_alloc (Below.refl _ w) (.cells #[.int .u8 27, .int .u8 91, .int .u8 49, .int .u8 109, .int .u8 65] 5 (5, 6))).size)⟩
end Go.Proofs.YtmpmfdghdaofhaaDoor.Ma
