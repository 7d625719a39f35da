/- A new parser, by hand: its rows are made and laid into its block. -/
import Derived.Test.YtmpmfdghdaofhaaDoorMachC
import Derived.Laws.MakeOwn
namespace Go.Proofs.YtmpmfdghdaofhaaDoor.Ma
set_option linter.unusedVariables false
set_option linter.unusedSimpArgs false
open Go Go.RowKit Go.Proofs.YtmpmfdghdaofhaaDoorW.PrintWords Go.Proofs.YtmpmfdghdaofhaaDoorW.PrintLast Go.Proofs.YtmpmfdghdaofhaaDoorW.PrintMore

/-- The row of 32 parameters that is made. -/
def P32 : Array Value := madeCells (Value.int .i64 0).cells 32
theorem P32_size : P32.size = 32 := by decide +kernel
theorem P32_0 : P32[0]? = some (.int .i64 0) := by kernel_rfl

set_option maxHeartbeats 8000000 in
set_option maxRecDepth 100000 in
theorem setParams (w : World) (B g : Nat) (c : Array Value) (A : Option Addr) (n m : Nat) (h : w.heap[g]? = some (.cells c 94 (0, 0))) (h9 : c[9]? = some (.slice A n m)) (hg : B ≤ g) (hbase : B ≤ w.heap.size) :
    Calls Tryd.prog 49 #[.pointer (some ⟨g, 0, none⟩), .int .i64 32] w fun e w' => e = .returned (.tuple #[]) ∧ ∃ gp, w.heap.size ≤ gp ∧ w'.heap[g]? = some (.cells (c.setIfInBounds 9 (.slice (some ⟨gp, 0, none⟩) 32 32)) 94 (0, 0)) ∧ w'.heap[gp]? = some (.cells P32 3 (0, 0)) ∧ Below B w w' := by
  have hmk : ∀ w_ : World, (Instr.makeSlice 92 (.int .i64 32) (.int .i64 32)).run Tryd.prog w_ = .ok (.slice (some ⟨w_.heap.size, 0, none⟩) 32 32) (w_.alloc (.cells P32 3)) := by
    intro w_
    obtain ⟨i, hi, hz⟩ := Option.map_eq_some_iff.1 (show (Tryd.prog.info? 3).map (fun i => (i.zero, i.size, i.bytes)) = some (some (.int .i64 0), 1, 8) by kernel_rfl)
    simp only [Prod.mk.injEq] at hz
    obtain ⟨hz0, hz1, hz2⟩ := hz
    have := run_make (P := Tryd.prog) w_ 92 3 i (.int .i64 0) Tryd.underlying92 hi hz0 .i64 .i64 32 32 (by omega) (by omega) (by rw [hz2]; omega) (by omega)
    rw [hz1] at this
    exact this
  have h2 := blk_alloc h (.cells P32 3)
  have hne : w.heap.size ≠ g := by have := blk_lt h; omega
  have hc : (w.alloc (.cells P32 3)).cell? ⟨g, 9, none⟩ = some (.slice A n m) := (blk_cell h2 9).trans h9
  have hf := blk_frozen h2 9
  have H2 := Aside0.mk h2
  clear h h2
  go_enter Tryd.func49, Tryd.ntmps49
  go_wp2
  go_end0
  exact ⟨rfl, w.heap.size, Nat.le_refl _, blk_set H2.out 9 _, blk_far (blk_new w _) (p := ⟨g, 9, none⟩) hne _, ((Below.refl B w).alloc hbase _).setCell hg _⟩

def D65536 : Array Value := madeCells (Value.int .u8 0).cells 65536
set_option maxHeartbeats 8000000 in
set_option maxRecDepth 100000 in
theorem setData65536 (w : World) (B g : Nat) (c : Array Value) (A : Option Addr) (n m : Nat) (h : w.heap[g]? = some (.cells c 94 (0, 0))) (h9 : c[10]? = some (.slice A n m)) (hg : B ≤ g) (hbase : B ≤ w.heap.size) :
    Calls Tryd.prog 27 #[.pointer (some ⟨g, 0, none⟩), .int .i64 65536] w fun e w' => e = .returned (.tuple #[]) ∧ ∃ gp, w.heap.size ≤ gp ∧ w'.heap[g]? = some (.cells (c.setIfInBounds 10 (.slice (some ⟨gp, 0, none⟩) 65536 65536)) 94 (0, 0)) ∧ Below B w w' := by
  have hmk : ∀ w_ : World, (Instr.makeSlice 27 (.int .i64 65536) (.int .i64 65536)).run Tryd.prog w_ = .ok (.slice (some ⟨w_.heap.size, 0, none⟩) 65536 65536) (w_.alloc (.cells D65536 5)) := by
    intro w_
    obtain ⟨i, hi, hz⟩ := Option.map_eq_some_iff.1 (show (Tryd.prog.info? 5).map (fun i => (i.zero, i.size, i.bytes)) = some (some (.int .u8 0), 1, 1) by kernel_rfl)
    simp only [Prod.mk.injEq] at hz
    obtain ⟨hz0, hz1, hz2⟩ := hz
    have := run_make (P := Tryd.prog) w_ 27 5 i (.int .u8 0) Tryd.underlying27 hi hz0 .i64 .i64 65536 65536 (by omega) (by omega) (by rw [hz2]; omega) (by omega)
    rw [hz1] at this
    exact this
  have h2 := blk_alloc h (.cells D65536 5)
  have hne : w.heap.size ≠ g := by have := blk_lt h; omega
  have hc : (w.alloc (.cells D65536 5)).cell? ⟨g, 10, none⟩ = some (.slice A n m) := (blk_cell h2 10).trans h9
  have hf := blk_frozen h2 10
  have H2 := Aside0.mk h2
  clear h h2
  go_enter Tryd.func27, Tryd.ntmps27
  go_wp2
  go_end0
  exact ⟨rfl, w.heap.size, Nat.le_refl _, blk_set H2.out 10 _, ((Below.refl B w).alloc hbase _).setCell hg _⟩

def D1024 : Array Value := madeCells (Value.int .u8 0).cells 1024
set_option maxHeartbeats 8000000 in
set_option maxRecDepth 100000 in
theorem setData1024 (w : World) (B g : Nat) (c : Array Value) (A : Option Addr) (n m : Nat) (h : w.heap[g]? = some (.cells c 94 (0, 0))) (h9 : c[10]? = some (.slice A n m)) (hg : B ≤ g) (hbase : B ≤ w.heap.size) :
    Calls Tryd.prog 27 #[.pointer (some ⟨g, 0, none⟩), .int .i64 1024] w fun e w' => e = .returned (.tuple #[]) ∧ ∃ gp, w.heap.size ≤ gp ∧ w'.heap[g]? = some (.cells (c.setIfInBounds 10 (.slice (some ⟨gp, 0, none⟩) 1024 1024)) 94 (0, 0)) ∧ Below B w w' ∧ (∀ (k : Nat) (t : TypeId) (cc : Array Value), w.heap[k]? = some (.cells cc t (0, 0)) → t ≠ 94 → w'.heap[k]? = some (.cells cc t (0, 0))) := by
  have hmk : ∀ w_ : World, (Instr.makeSlice 27 (.int .i64 1024) (.int .i64 1024)).run Tryd.prog w_ = .ok (.slice (some ⟨w_.heap.size, 0, none⟩) 1024 1024) (w_.alloc (.cells D1024 5)) := by
    intro w_
    obtain ⟨i, hi, hz⟩ := Option.map_eq_some_iff.1 (show (Tryd.prog.info? 5).map (fun i => (i.zero, i.size, i.bytes)) = some (some (.int .u8 0), 1, 1) by kernel_rfl)
    simp only [Prod.mk.injEq] at hz
    obtain ⟨hz0, hz1, hz2⟩ := hz
    have := run_make (P := Tryd.prog) w_ 27 5 i (.int .u8 0) Tryd.underlying27 hi hz0 .i64 .i64 1024 1024 (by omega) (by omega) (by rw [hz2]; omega) (by omega)
    rw [hz1] at this
    exact this
  have h2 := blk_alloc h (.cells D1024 5)
  have hne : w.heap.size ≠ g := by have := blk_lt h; omega
  have hc : (w.alloc (.cells D1024 5)).cell? ⟨g, 10, none⟩ = some (.slice A n m) := (blk_cell h2 10).trans h9
  have hf := blk_frozen h2 10
  have H2 := Aside0.mk h2
  have HF := Aside0.mk (show ∀ (k : Nat) (t : TypeId) (cc : Array Value), w.heap[k]? = some (.cells cc t (0, 0)) → t ≠ 94 → k ≠ g from fun k t cc hk ht e => by subst e; rw [h] at hk; simp at hk; exact ht hk.2.symm)
  clear h h2
  go_enter Tryd.func27, Tryd.ntmps27
  go_wp2
  go_end0
  exact ⟨rfl, w.heap.size, Nat.le_refl _, blk_set H2.out 10 _, ((Below.refl B w).alloc hbase _).setCell hg _, fun k t cc hk ht => (Below.heap_setCell _ ⟨g, 10, none⟩ _ k (HF.out k t cc hk ht)).trans (blk_alloc hk _)⟩

/-- A new parser's cells, without handlers. -/
def cs0 (gp gd : Nat) : Array Value := #[.nilFunc, .nilFunc, .nilFunc, .nilFunc, .nilFunc, .nilFunc, .nilFunc, .nilFunc, .nilFunc, .slice (some ⟨gp, 0, none⟩) 32 32, .slice (some ⟨gd, 0, none⟩) 1024 1024, .int .i64 0, .int .i64 0, .int .i64 0, .int .u8 0]

set_option maxHeartbeats 8000000 in
set_option maxRecDepth 100000 in
theorem newP (w : World) : Calls Tryd.prog 48 #[] w fun e w' => ∃ g gp gd, e = .returned (.pointer (some ⟨g, 0, none⟩)) ∧ w.heap.size ≤ g ∧ w'.heap[g]? = some (.cells (#[.nilFunc, .nilFunc, .nilFunc, .nilFunc, .nilFunc, .nilFunc, .nilFunc, .nilFunc, .nilFunc, .slice (some ⟨gp, 0, none⟩) 32 32, .slice (some ⟨gd, 0, none⟩) 65536 65536, .int .i64 0, .int .i64 0, .int .i64 0, .int .u8 0]) 94 (0, 0)) ∧ Below w.heap.size w w' := by
  go_enter Tryd.func48, Tryd.ntmps48
  go_wp2_with (first | ((with_reducible refine gate_dst (N := 2) rfl ?_); refine box_event ?hg (N := 2) ?hd (cs := #[.nilFunc, .nilFunc, .nilFunc, .nilFunc, .nilFunc, .nilFunc, .nilFunc, .nilFunc, .nilFunc, .slice none 0 0, .slice none 0 0, .int .i64 0, .int .i64 0, .int .i64 0, .int .u8 0]) (t := 94) ?hr ?_; (case hd => rfl); (case hg => rfl); (case hr => first | (go_simp; done) | (go_simp; rfl)); intro g hg w1 hbox hb; have BK := Aside0.mk hbox; have HB := Aside0.mk hb; have GE := Aside0.mk (Nat.le_of_eq hg.symm); clear hbox hb hg) | fail)
  refine (setParams w1 w.heap.size g _ none 0 0 BK.out rfl GE.out HB.out.size).mono ?_
  rintro e w2 ⟨rfl, gp, hgp, h2, hp2, hb2⟩
  have B2 := Aside0.mk (HB.out.trans hb2)
  have K2 := Aside0.mk h2
  clear h2 hp2 hb2 hgp
  go_wp2_with fail
  refine (setData65536 w2 w.heap.size g _ none 0 0 K2.out rfl GE.out B2.out.size).mono ?_
  rintro e w3 ⟨rfl, gd, hgd, h3, hb3⟩
  have B3 := Aside0.mk (B2.out.trans hb3)
  have K3 := Aside0.mk h3
  clear h3 hb3 hgd
  go_wp2
  go_ret
  exact ⟨g, gp, gd, rfl, GE.out, K3.out.trans rfl, B3.out⟩

set_option maxHeartbeats 8000000 in
set_option maxRecDepth 100000 in
theorem newParser_ (w : World) : Calls Tryd.prog 26 #[.int .i64 32, .int .i64 1024] w fun e w' => ∃ g gp gd, e = .returned (.pointer (some ⟨g, 0, none⟩)) ∧ w.heap.size ≤ g ∧ w.heap.size ≤ gp ∧ w'.heap[g]? = some (.cells (cs0 gp gd) 94 (0, 0)) ∧ w'.heap[gp]? = some (.cells P32 3 (0, 0)) ∧ Below w.heap.size w w' := by
  go_enter Tryd.func26, Tryd.ntmps26
  go_wp2_with fail
  refine (newP w).mono ?_
  rintro e w1 ⟨g, gp0, gd0, rfl, hg, h1, hb1⟩
  have HG := Aside0.mk hg
  have HB := Aside0.mk hb1
  have K1 := Aside0.mk h1
  clear hg hb1 h1
  go_wp2_with fail
  refine (setParams w1 w.heap.size g _ _ 32 32 K1.out rfl HG.out HB.out.size).mono ?_
  rintro e w2 ⟨rfl, gp, hgp, h2, hp2, hb2⟩
  have B2 := Aside0.mk (HB.out.trans hb2)
  have K2 := Aside0.mk h2
  have P2 := Aside0.mk hp2
  have HP := Aside0.mk (Nat.le_trans HB.out.size hgp)
  clear h2 hp2 hb2 hgp
  go_wp2_with fail
  refine (setData1024 w2 (w.heap.size) g _ _ 65536 65536 K2.out rfl HG.out B2.out.size).mono ?_
  rintro e w3 ⟨rfl, gd, hgd, h3, hb3, hf3⟩
  have B3 := Aside0.mk (B2.out.trans hb3)
  have K3 := Aside0.mk h3
  have P3 := Aside0.mk (hf3 gp 3 P32 P2.out (by decide))
  clear h3 hb3 hgd hf3
  go_wp2
  go_ret
  exact ⟨g, gp, gd, rfl, HG.out, HP.out, K3.out.trans rfl, P3.out, B3.out⟩

end Go.Proofs.YtmpmfdghdaofhaaDoor.Ma
