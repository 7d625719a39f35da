/- A parser's handlers are set, by hand: SetHandler and impl.listen. -/
import Derived.Test.YtmpmfdghdaofhaaDoorMachG
import Derived.Test.YtmpmfdghdaofhaaDoorMachP
import Derived.Laws.CopyRow
import Derived.Laws.CopyOwn
import Derived.Laws.Tables
namespace Go.Proofs.YtmpmfdghdaofhaaDoor.Ma
set_option linter.unusedVariables false
set_option linter.unusedSimpArgs false
open Go Go.RowKit Go.Proofs.YtmpmfdghdaofhaaDoorW.PrintWords Go.Proofs.YtmpmfdghdaofhaaDoorW.PrintLast Go.Proofs.YtmpmfdghdaofhaaDoorW.PrintMore

/-- A struct is stored at the head of a greater one. -/
theorem run_part {P : Program} (w : World) (g : Nat) (t ty : TypeId) (old cells : Array Value) (hg : w.heap[g]? = some (.cells old t (0, 0))) (hi : (P.info? ty).map (·.size) = some cells.size)
    (hle : cells.size ≤ old.size) (h1 : cells.all (·.oneCell') = true) :
    (storeVar ty ⟨g, 0, none⟩ (.agg cells)).run P w = .ok () (w.setRow g (cells.toList ++ old.toList.drop cells.size).toArray) := by
  have := run_storeCells_at (P := P) g 0 t cells.toList 0 old w hg (by simp; omega) (fun v hv => (Array.all_eq_true_iff_forall_mem.1 h1) v (by simpa using hv))
  cases hq : P.info? ty with
  | none => simp [hq] at hi
  | some i =>
    have hs : cells.size = i.size := by simp [hq] at hi; omega
    simp at this
    simp [storeVar, sizeOf, typeInfo, hq, Value.cells, hs, this]
theorem wpl_part {P : Program} {ops : Array Oper} {rest : List Oper} {o : Oper} {a : Act} {w : World} {Q : Exit → Act → World → Prop} (hgd : o.guard = none) (ty : TypeId) (x y : Operand) (ho : o.op = .store ty x y)
    (g : Nat) (cells : Array Value) (hx : a.eval x = .pointer (some ⟨g, 0, none⟩)) (hy : a.eval y = .agg cells)
    (t : TypeId) (old : Array Value) (hg : w.heap[g]? = some (.cells old t (0, 0))) (hi : (P.info? ty).map (·.size) = some cells.size)
    (hle : cells.size ≤ old.size) (h1 : cells.all (·.oneCell') = true)
    (h : wpList P ops Q rest (a.put o.dst undef) (w.setRow g (cells.toList ++ old.toList.drop cells.size).toArray)) : wpList P ops Q (o :: rest) a w := by
  refine wpList_plain hgd fun K hK => ?_
  unfold Oper.wp execOp
  simp only [ho, hx, hy, Instr.storeAt, Instr.sureAddr, Sem.run_bind, Sem.run_pure, Result.andThen_ok, run_part w g t ty old cells hg hi hle h1]
  exact hK _ _ h

set_option maxHeartbeats 8000000 in
set_option maxRecDepth 100000 in
theorem setHandler (w : World) (B g gb gp gd : Nat) (h : w.heap[g]? = some (.cells (cs0 gp gd) 94 (0, 0))) (hg : B ≤ g) (hbase : B ≤ w.heap.size) :
    Calls Tryd.prog 57 #[.pointer (some ⟨g, 0, none⟩), .agg #[.func (.func 58) #[] #[.pointer (some ⟨gb, 0, none⟩)], .func (.func 59) #[] #[.pointer (some ⟨gb, 0, none⟩)], .func (.func 60) #[] #[.pointer (some ⟨gb, 0, none⟩)], .func (.func 61) #[] #[.pointer (some ⟨gb, 0, none⟩)], .func (.func 62) #[] #[.pointer (some ⟨gb, 0, none⟩)], .func (.func 63) #[] #[.pointer (some ⟨gb, 0, none⟩)], .func (.func 64) #[] #[.pointer (some ⟨gb, 0, none⟩)], .func (.func 65) #[] #[.pointer (some ⟨gb, 0, none⟩)], .func (.func 66) #[] #[.pointer (some ⟨gb, 0, none⟩)]]] w fun e w' => e = .returned (.tuple #[]) ∧ w'.heap[g]? = some (.cells (cs gb gp gd 0 0 0 0) 94 (0, 0)) ∧ Below B w w' ∧ (∀ (k : Nat) (t : TypeId) (cc : Array Value), w.heap[k]? = some (.cells cc t (0, 0)) → t ≠ 94 → w'.heap[k]? = some (.cells cc t (0, 0))) := by
  have HG := Aside0.mk h
  have HBS := Aside0.mk hbase
  have HF := Aside0.mk (show ∀ (k : Nat) (t : TypeId) (cc : Array Value), w.heap[k]? = some (.cells cc t (0, 0)) → t ≠ 94 → k ≠ g from fun k t cc hk ht e => by subst e; rw [h] at hk; simp at hk; exact ht hk.2.symm)
  clear h hbase
  go_enter Tryd.func57, Tryd.ntmps57
  go_wp2_with (first | ((with_reducible refine gate_dst (N := 3) rfl ?_); refine box_event ?hg (N := 3) ?hd (cs := #[.func (.func 58) #[] #[.pointer (some ⟨gb, 0, none⟩)], .func (.func 59) #[] #[.pointer (some ⟨gb, 0, none⟩)], .func (.func 60) #[] #[.pointer (some ⟨gb, 0, none⟩)], .func (.func 61) #[] #[.pointer (some ⟨gb, 0, none⟩)], .func (.func 62) #[] #[.pointer (some ⟨gb, 0, none⟩)], .func (.func 63) #[] #[.pointer (some ⟨gb, 0, none⟩)], .func (.func 64) #[] #[.pointer (some ⟨gb, 0, none⟩)], .func (.func 65) #[] #[.pointer (some ⟨gb, 0, none⟩)], .func (.func 66) #[] #[.pointer (some ⟨gb, 0, none⟩)]]) (t := 91) ?hr ?_; (case hd => rfl); (case hg => rfl); (case hr => first | (go_simp; done) | (go_simp; rfl)); intro g1 hg1 w2 hbox1 hb1; have BK1 := Aside0.mk hbox1; have HB1 := Aside0.mk hb1; have HG2 := Aside0.mk ((hb1.block g (blk_lt HG.out)).trans HG.out); clear hbox1 hb1 hg1) | ((with_reducible refine gate_dst (N := 5) rfl ?_); refine wpList_load_row rfl 91 (.tmp 3) rfl g1 rfl 91 #[.func (.func 58) #[] #[.pointer (some ⟨gb, 0, none⟩)], .func (.func 59) #[] #[.pointer (some ⟨gb, 0, none⟩)], .func (.func 60) #[] #[.pointer (some ⟨gb, 0, none⟩)], .func (.func 61) #[] #[.pointer (some ⟨gb, 0, none⟩)], .func (.func 62) #[] #[.pointer (some ⟨gb, 0, none⟩)], .func (.func 63) #[] #[.pointer (some ⟨gb, 0, none⟩)], .func (.func 64) #[] #[.pointer (some ⟨gb, 0, none⟩)], .func (.func 65) #[] #[.pointer (some ⟨gb, 0, none⟩)], .func (.func 66) #[] #[.pointer (some ⟨gb, 0, none⟩)]] (0, 0) _ BK1.out Tryd.underlying91 rfl (by kernel_rfl) ?_) | ((with_reducible refine gate_store (t := 91) (p := 7) (v := .tmp 5) rfl ?_); refine wpl_part rfl 91 (.tmp 7) (.tmp 5) rfl g #[.func (.func 58) #[] #[.pointer (some ⟨gb, 0, none⟩)], .func (.func 59) #[] #[.pointer (some ⟨gb, 0, none⟩)], .func (.func 60) #[] #[.pointer (some ⟨gb, 0, none⟩)], .func (.func 61) #[] #[.pointer (some ⟨gb, 0, none⟩)], .func (.func 62) #[] #[.pointer (some ⟨gb, 0, none⟩)], .func (.func 63) #[] #[.pointer (some ⟨gb, 0, none⟩)], .func (.func 64) #[] #[.pointer (some ⟨gb, 0, none⟩)], .func (.func 65) #[] #[.pointer (some ⟨gb, 0, none⟩)], .func (.func 66) #[] #[.pointer (some ⟨gb, 0, none⟩)]] rfl rfl 94 (cs0 gp gd) HG2.out (by kernel_rfl) (show 9 ≤ 15 by omega) (by kernel_rfl) ?_) | fail)
  go_end0
  refine ⟨rfl, ?_, ?_, ?_⟩
  · exact (setRow_heap w2 g _ _ _ _ HG2.out).trans rfl
  · exact below_setRow (HB1.out.mono HBS.out) hg _
  · exact fun k t cc hk ht => (setRow_other w2 g k _ (HF.out k t cc hk ht)).trans ((HB1.out.block k (blk_lt hk)).trans hk)

/-- A struct is built: the cells told. -/
theorem wpList_build_ {P : Program} {ops : Array Oper} {rest : List Oper} {o : Oper} {a : Act} {w : World} {Q : Exit → Act → World → Prop} (hg : o.guard = none) (t : TypeId) (parts : Array (Nat × Operand)) (cells : Array Value) (ho : o.op = .build t parts)
    (hc : P.built t (parts.map fun (i, x) => (i, a.eval x)).toList = some cells) (h : wpList P ops Q rest (a.put o.dst (.agg cells)) w) : wpList P ops Q (o :: rest) a w := by
  refine wpList_build hg t parts ho (by rw [hc]; rfl) ?_
  rw [hc]
  exact h

set_option maxHeartbeats 8000000 in
set_option maxRecDepth 100000 in
theorem listen_ (w : World) (B g go gp gd : Nat) (h : w.heap[g]? = some (.cells (cs0 gp gd) 94 (0, 0))) (hg : B ≤ g) (hbase : B ≤ w.heap.size) :
    Calls Tryd.prog 41 #[.pointer (some ⟨g, 0, none⟩), .pointer (some ⟨go, 0, none⟩)] w fun e w' => e = .returned (.tuple #[]) ∧ ∃ gb, w'.heap[g]? = some (.cells (cs gb gp gd 0 0 0 0) 94 (0, 0)) ∧ Ptr w' gb go ∧ Below B w w' ∧ (∀ (k : Nat) (t : TypeId) (cc : Array Value), w.heap[k]? = some (.cells cc t (0, 0)) → t ≠ 94 → w'.heap[k]? = some (.cells cc t (0, 0))) := by
  have hmf : ∀ (fn : Fn) (first cap : Array Value) (w : World), (Instr.makeFunc fn first cap).run Tryd.prog w = .ok (.func fn first cap) w := fun _ _ _ _ => rfl
  have HG := Aside0.mk h
  have HBS := Aside0.mk hbase
  clear h hbase
  go_enter Tryd.func41, Tryd.ntmps41
  go_wp2_with (first | ((with_reducible refine gate_dst (N := 3) rfl ?_); refine box_event ?hg (N := 3) ?hd (cs := #[.pointer (some ⟨go, 0, none⟩)]) (t := 75) ?hr ?_; (case hd => rfl); (case hg => rfl); (case hr => first | (go_simp; done) | (go_simp; rfl)); intro gb hgb w2 hbox hb1; have BK1 := Aside0.mk hbox; have HB1 := Aside0.mk hb1; have HG2 := Aside0.mk ((hb1.block g (blk_lt HG.out)).trans HG.out); clear hbox hb1 hgb) | ((with_reducible refine gate_dst (N := 14) rfl ?_); refine wpList_build_ rfl 91 _ #[.func (.func 58) #[] #[.pointer (some ⟨gb, 0, none⟩)], .func (.func 59) #[] #[.pointer (some ⟨gb, 0, none⟩)], .func (.func 60) #[] #[.pointer (some ⟨gb, 0, none⟩)], .func (.func 61) #[] #[.pointer (some ⟨gb, 0, none⟩)], .func (.func 62) #[] #[.pointer (some ⟨gb, 0, none⟩)], .func (.func 63) #[] #[.pointer (some ⟨gb, 0, none⟩)], .func (.func 64) #[] #[.pointer (some ⟨gb, 0, none⟩)], .func (.func 65) #[] #[.pointer (some ⟨gb, 0, none⟩)], .func (.func 66) #[] #[.pointer (some ⟨gb, 0, none⟩)]] rfl (by kernel_rfl) ?_) | fail)
  refine (setHandler w2 B g gb gp gd HG2.out hg (Nat.le_trans HBS.out HB1.out.size)).mono ?_
  rintro e w3 ⟨rfl, h3, hb3, hf3⟩
  go_wp2
  go_end0
  exact ⟨rfl, gb, h3, hf3 _ _ _ BK1.out (by decide), (HB1.out.mono HBS.out).trans hb3, fun k t cc hk ht => hf3 k t cc ((HB1.out.block k (blk_lt hk)).trans hk) ht⟩

end Go.Proofs.YtmpmfdghdaofhaaDoor.Ma
