/- Texts of this claim, joined; what isn't needed is left out (wip/slim.py). -/
import Derived.Test.YtmpmfdghdaofhaaDoorZH8
import Derived.Laws.MakeOwn
namespace Go.Proofs.YtmpmfdghdaofhaaDoor.Ma
set_option linter.unusedVariables false
set_option linter.unusedSimpArgs false
open Go Go.RowKit Go.Proofs.YtmpmfdghdaofhaaDoorW.PrintWords Go.Proofs.YtmpmfdghdaofhaaDoorW.PrintLast Go.Proofs.YtmpmfdghdaofhaaDoorW.PrintMore
def fn (f gb : Nat) : Value := .func (.func f) #[] #[.pointer (some ⟨gb, 0, none⟩)]
def cs (gb gp gd : Nat) (dl pl cmd st : Int) : Array Value :=
  #[fn 58 gb, fn 59 gb, fn 60 gb, fn 61 gb, fn 62 gb, fn 63 gb, fn 64 gb, fn 65 gb, fn 66 gb,
    .slice (some ⟨gp, 0, none⟩) 32 32, .slice (some ⟨gd, 0, none⟩) 1024 1024, .int .i64 dl, .int .i64 pl, .int .i64 cmd, .int .u8 st]
def PS (W : World) (g gb gp gd : Nat) (dl pl cmd st p0 : Int) : Prop :=
  W.heap[g]? = some (.cells (cs gb gp gd dl pl cmd st) 94 (0, 0)) ∧ ∃ ps : Array Value, ps.size = 32 ∧ ps[0]? = some (.int .i64 p0) ∧ W.heap[gp]? = some (.cells ps 3 (0, 0))
def Far (w w' : World) (g gp : Nat) : Prop := w.heap.size ≤ w'.heap.size ∧ ∀ k, k < w.heap.size → k ≠ g → k ≠ gp → w'.heap[k]? = w.heap[k]?
theorem Far.refl (w : World) (g gp : Nat) : Far w w g gp := ⟨Nat.le_refl _, fun _ _ _ _ => rfl⟩
theorem Far.trans {a b c : World} {g gp : Nat} (h : Far a b g gp) (k : Far b c g gp) : Far a c g gp :=
  ⟨Nat.le_trans h.1 k.1, fun i hi h1 h2 => (k.2 i (Nat.lt_of_lt_of_le hi h.1) h1 h2).trans (h.2 i hi h1 h2)⟩
theorem Far.of_below {a b : World} {g gp : Nat} (h : Below a.heap.size a b) : Far a b g gp := ⟨h.size, fun i hi _ _ => h.block i hi⟩
theorem Far.set {a b : World} {g gp j : Nat} (h : Far a b g gp) (v : Value) : Far a (b.setCell ⟨g, j, none⟩ v) g gp :=
  ⟨by simpa [World.setCell] using h.1, fun i hi h1 h2 => (Below.heap_setCell b ⟨g, j, none⟩ v i h1).trans (h.2 i hi h1 h2)⟩
theorem Far.setp {a b : World} {g gp j : Nat} (h : Far a b g gp) (v : Value) : Far a (b.setCell ⟨gp, j, none⟩ v) g gp :=
  ⟨by simpa [World.setCell] using h.1, fun i hi h1 h2 => (Below.heap_setCell b ⟨gp, j, none⟩ v i h2).trans (h.2 i hi h1 h2)⟩
theorem PS.ne {W : World} {g gb gp gd : Nat} {dl pl cmd st p0 : Int} (h : PS W g gb gp gd dl pl cmd st p0) : g ≠ gp := by
  rintro rfl
  obtain ⟨h1, ps, _, _, h2⟩ := h
  rw [h1] at h2
  simp at h2
theorem PS.set_dl {W : World} {g gb gp gd : Nat} {dl pl cmd st p0 : Int} (h : PS W g gb gp gd dl pl cmd st p0) (x : Int) : PS (W.setCell ⟨g, 11, none⟩ (.int .i64 x)) g gb gp gd x pl cmd st p0 := by
  have hne := h.ne
  obtain ⟨h1, ps, hs, hp, h2⟩ := h
  exact ⟨(blk_set h1 11 _).trans rfl, ps, hs, hp, blk_far h2 (p := ⟨g, 11, none⟩) (fun e => hne e.symm) _⟩
theorem PS.set_pl {W : World} {g gb gp gd : Nat} {dl pl cmd st p0 : Int} (h : PS W g gb gp gd dl pl cmd st p0) (x : Int) : PS (W.setCell ⟨g, 12, none⟩ (.int .i64 x)) g gb gp gd dl x cmd st p0 := by
  have hne := h.ne
  obtain ⟨h1, ps, hs, hp, h2⟩ := h
  exact ⟨(blk_set h1 12 _).trans rfl, ps, hs, hp, blk_far h2 (p := ⟨g, 12, none⟩) (fun e => hne e.symm) _⟩
theorem PS.set_cmd {W : World} {g gb gp gd : Nat} {dl pl cmd st p0 : Int} (h : PS W g gb gp gd dl pl cmd st p0) (x : Int) : PS (W.setCell ⟨g, 13, none⟩ (.int .i64 x)) g gb gp gd dl pl x st p0 := by
  have hne := h.ne
  obtain ⟨h1, ps, hs, hp, h2⟩ := h
  exact ⟨(blk_set h1 13 _).trans rfl, ps, hs, hp, blk_far h2 (p := ⟨g, 13, none⟩) (fun e => hne e.symm) _⟩
theorem PS.set_st {W : World} {g gb gp gd : Nat} {dl pl cmd st p0 : Int} (h : PS W g gb gp gd dl pl cmd st p0) (x : Int) : PS (W.setCell ⟨g, 14, none⟩ (.int .u8 x)) g gb gp gd dl pl cmd x p0 := by
  have hne := h.ne
  obtain ⟨h1, ps, hs, hp, h2⟩ := h
  exact ⟨(blk_set h1 14 _).trans rfl, ps, hs, hp, blk_far h2 (p := ⟨g, 14, none⟩) (fun e => hne e.symm) _⟩
theorem PS.set_p0 {W : World} {g gb gp gd : Nat} {dl pl cmd st p0 : Int} (h : PS W g gb gp gd dl pl cmd st p0) (x : Int) : PS (W.setCell ⟨gp, 0, none⟩ (.int .i64 x)) g gb gp gd dl pl cmd st x := by
  have hne := h.ne
  obtain ⟨h1, ps, hs, hp, h2⟩ := h
  refine ⟨blk_far h1 (p := ⟨gp, 0, none⟩) hne _, ps.setIfInBounds 0 (.int .i64 x), by simpa using hs, ?_, blk_set h2 0 _⟩
  rw [Array.getElem?_setIfInBounds_self_of_lt (by omega)]
theorem PS.far {W W' : World} {g gb gp gd : Nat} {dl pl cmd st p0 : Int} (h : PS W g gb gp gd dl pl cmd st p0) (hb : Below W.heap.size W W') : PS W' g gb gp gd dl pl cmd st p0 := by
  obtain ⟨h1, ps, hs, hp, h2⟩ := h
  exact ⟨(hb.block _ (blk_lt h1)).trans h1, ps, hs, hp, (hb.block _ (blk_lt h2)).trans h2⟩
theorem PS.cell {W : World} {g gb gp gd : Nat} {dl pl cmd st p0 : Int} (h : PS W g gb gp gd dl pl cmd st p0) (j : Nat) : W.cell? ⟨g, j, none⟩ = (cs gb gp gd dl pl cmd st)[j]? := blk_cell h.1 j
theorem PS.free {W : World} {g gb gp gd : Nat} {dl pl cmd st p0 : Int} (h : PS W g gb gp gd dl pl cmd st p0) (j : Nat) : W.frozen? ⟨g, j, none⟩ = false := blk_frozen h.1 j
theorem PS.cellp {W : World} {g gb gp gd : Nat} {dl pl cmd st p0 : Int} (h : PS W g gb gp gd dl pl cmd st p0) : W.cell? ⟨gp, 0, none⟩ = some (.int .i64 p0) := by
  obtain ⟨h1, ps, hs, hp, h2⟩ := h
  exact (blk_cell h2 0).trans hp
theorem PS.freep {W : World} {g gb gp gd : Nat} {dl pl cmd st p0 : Int} (h : PS W g gb gp gd dl pl cmd st p0) (j : Nat) : W.frozen? ⟨gp, j, none⟩ = false := by
  obtain ⟨h1, ps, hs, hp, h2⟩ := h
  exact blk_frozen h2 j
set_option maxHeartbeats 8000000 in
set_option maxRecDepth 100000 in
theorem clear_ (w : World) (B g gb gp gd : Nat) (dl pl cmd st p0 : Int) (h : PS w g gb gp gd dl pl cmd st p0) (hg : B ≤ g) (hgp : B ≤ gp) :
    Calls Tryd.prog 71 #[.pointer (some ⟨g, 0, none⟩)] w fun e w' => e = .returned (.tuple #[]) ∧ PS w' g gb gp gd dl 0 0 st 2147483647 ∧ Below B w w' ∧ Far w w' g gp := by
  have H1 := h.set_p0 2147483647
  have H2 := H1.set_pl 0
  have H3 := Aside0.mk (H2.set_cmd 0)
  have h9 : w.cell? ⟨g, 9, none⟩ = some (.slice (some ⟨gp, 0, none⟩) 32 32) := (h.cell 9).trans rfl
  have q0 : w.cell? ⟨gp, 0, none⟩ = some (.int .i64 p0) := h.cellp
  have qf := h.freep 0
  have h12 : (w.setCell ⟨gp, 0, none⟩ (.int .i64 2147483647)).cell? ⟨g, 12, none⟩ = some (.int .i64 pl) := (H1.cell 12).trans rfl
  have f12 := H1.free 12
  have h13 : ((w.setCell ⟨gp, 0, none⟩ (.int .i64 2147483647)).setCell ⟨g, 12, none⟩ (.int .i64 0)).cell? ⟨g, 13, none⟩ = some (.int .i64 cmd) := (H2.cell 13).trans rfl
  have f13 := H2.free 13
  clear h H1 H2
  go_enter Tryd.func71, Tryd.ntmps71
  go_wp2
  go_end0
  exact ⟨rfl, H3.out, (((Below.refl B w).setCell hgp _).setCell hg _).setCell hg _, (((Far.refl w g gp).setp _).set _).set _⟩
end Go.Proofs.YtmpmfdghdaofhaaDoor.Ma

namespace Go.Proofs.YtmpmfdghdaofhaaDoor.Ma
set_option linter.unusedVariables false
set_option linter.unusedSimpArgs false
open Go Go.RowKit Go.Proofs.YtmpmfdghdaofhaaDoorW.PrintWords Go.Proofs.YtmpmfdghdaofhaaDoorW.PrintLast Go.Proofs.YtmpmfdghdaofhaaDoorW.PrintMore
def P32 : Array Value := madeCells (Value.int .i64 0).cells 32
theorem P32_size : P32.size = 32 := by decide +kernel
theorem P32_0 : P32[0]? = some (.int .i64 0) := by kernel_rfl
set_option maxHeartbeats 8000000 in
set_option maxRecDepth 100000 in
theorem setParams (w : World) (B g : Nat) (c : Array Value) (A : Option Addr) (n m : Nat) (h : w.heap[g]? = some (.cells c 94 (0, 0))) (h9 : c[9]? = some (.slice A n m)) (hg : B ≤ g) (hbase : B ≤ w.heap.size) :
    Calls Tryd.prog 49 #[.pointer (some ⟨g, 0, none⟩), .int .i64 32] w fun e w' => e = .returned (.tuple #[]) ∧ ∃ gp, w.heap.size ≤ gp ∧ w'.heap[g]? = some (.cells (c.setIfInBounds 9 (.slice (some ⟨gp, 0, none⟩) 32 32)) 94 (0, 0)) ∧ w'.heap[gp]? = some (.cells P32 3 (0, 0)) ∧ Below B w w' := by
  have hmk : ∀ w_ : World, (Instr.makeSlice 92 (.int .i64 32) (.int .i64 32)).run Tryd.prog w_ = .ok (.slice (some ⟨w_.heap.size, 0, none⟩) 32 32) (w_.alloc (.cells P32 3)) := by
    intro w_
    obtain ⟨i, hi, hz⟩ := Option.map_eq_some_iff.1 (show (Tryd.prog.info? 3).map (fun i => (i.zero, i.size, i.bytes)) = some (some (.int .i64 0), 1, 8) by kernel_rfl)
    simp only [Prod.mk.injEq] at hz
    obtain ⟨hz0, hz1, hz2⟩ := hz
    have := run_make (P := Tryd.prog) w_ 92 3 i (.int .i64 0) Tryd.underlying92 hi hz0 .i64 .i64 32 32 (by omega) (by omega) (by rw [hz2]; omega) (by omega)
    rw [hz1] at this
    exact this
  have h2 := blk_alloc h (.cells P32 3)
  have hne : w.heap.size ≠ g := by have := blk_lt h; omega
  have hc : (w.alloc (.cells P32 3)).cell? ⟨g, 9, none⟩ = some (.slice A n m) := (blk_cell h2 9).trans h9
  have hf := blk_frozen h2 9
  have H2 := Aside0.mk h2
  clear h h2
  go_enter Tryd.func49, Tryd.ntmps49
  go_wp2
  go_end0
  exact ⟨rfl, w.heap.size, Nat.le_refl _, blk_set H2.out 9 _, blk_far (blk_new w _) (p := ⟨g, 9, none⟩) hne _, ((Below.refl B w).alloc hbase _).setCell hg _⟩
def D65536 : Array Value := madeCells (Value.int .u8 0).cells 65536
set_option maxHeartbeats 8000000 in
set_option maxRecDepth 100000 in
theorem setData65536 (w : World) (B g : Nat) (c : Array Value) (A : Option Addr) (n m : Nat) (h : w.heap[g]? = some (.cells c 94 (0, 0))) (h9 : c[10]? = some (.slice A n m)) (hg : B ≤ g) (hbase : B ≤ w.heap.size) :
    Calls Tryd.prog 27 #[.pointer (some ⟨g, 0, none⟩), .int .i64 65536] w fun e w' => e = .returned (.tuple #[]) ∧ ∃ gp, w.heap.size ≤ gp ∧ w'.heap[g]? = some (.cells (c.setIfInBounds 10 (.slice (some ⟨gp, 0, none⟩) 65536 65536)) 94 (0, 0)) ∧ Below B w w' := by
  have hmk : ∀ w_ : World, (Instr.makeSlice 27 (.int .i64 65536) (.int .i64 65536)).run Tryd.prog w_ = .ok (.slice (some ⟨w_.heap.size, 0, none⟩) 65536 65536) (w_.alloc (.cells D65536 5)) := by
    intro w_
    obtain ⟨i, hi, hz⟩ := Option.map_eq_some_iff.1 (show (Tryd.prog.info? 5).map (fun i => (i.zero, i.size, i.bytes)) = some (some (.int .u8 0), 1, 1) by kernel_rfl)
    simp only [Prod.mk.injEq] at hz
    obtain ⟨hz0, hz1, hz2⟩ := hz
    have := run_make (P := Tryd.prog) w_ 27 5 i (.int .u8 0) Tryd.underlying27 hi hz0 .i64 .i64 65536 65536 (by omega) (by omega) (by rw [hz2]; omega) (by omega)
    rw [hz1] at this
    exact this
  have h2 := blk_alloc h (.cells D65536 5)
  have hne : w.heap.size ≠ g := by have := blk_lt h; omega
  have hc : (w.alloc (.cells D65536 5)).cell? ⟨g, 10, none⟩ = some (.slice A n m) := (blk_cell h2 10).trans h9
  have hf := blk_frozen h2 10
  have H2 := Aside0.mk h2
  clear h h2
  go_enter Tryd.func27, Tryd.ntmps27
  go_wp2
  go_end0
  exact ⟨rfl, w.heap.size, Nat.le_refl _, blk_set H2.out 10 _, ((Below.refl B w).alloc hbase _).setCell hg _⟩
def D1024 : Array Value := madeCells (Value.int .u8 0).cells 1024
set_option maxHeartbeats 8000000 in
set_option maxRecDepth 100000 in
theorem setData1024 (w : World) (B g : Nat) (c : Array Value) (A : Option Addr) (n m : Nat) (h : w.heap[g]? = some (.cells c 94 (0, 0))) (h9 : c[10]? = some (.slice A n m)) (hg : B ≤ g) (hbase : B ≤ w.heap.size) :
    Calls Tryd.prog 27 #[.pointer (some ⟨g, 0, none⟩), .int .i64 1024] w fun e w' => e = .returned (.tuple #[]) ∧ ∃ gp, w.heap.size ≤ gp ∧ w'.heap[g]? = some (.cells (c.setIfInBounds 10 (.slice (some ⟨gp, 0, none⟩) 1024 1024)) 94 (0, 0)) ∧ Below B w w' ∧ (∀ (k : Nat) (t : TypeId) (cc : Array Value), w.heap[k]? = some (.cells cc t (0, 0)) → t ≠ 94 → w'.heap[k]? = some (.cells cc t (0, 0))) := by
  have hmk : ∀ w_ : World, (Instr.makeSlice 27 (.int .i64 1024) (.int .i64 1024)).run Tryd.prog w_ = .ok (.slice (some ⟨w_.heap.size, 0, none⟩) 1024 1024) (w_.alloc (.cells D1024 5)) := by
    intro w_
    obtain ⟨i, hi, hz⟩ := Option.map_eq_some_iff.1 (show (Tryd.prog.info? 5).map (fun i => (i.zero, i.size, i.bytes)) = some (some (.int .u8 0), 1, 1) by kernel_rfl)
    simp only [Prod.mk.injEq] at hz
    obtain ⟨hz0, hz1, hz2⟩ := hz
    have := run_make (P := Tryd.prog) w_ 27 5 i (.int .u8 0) Tryd.underlying27 hi hz0 .i64 .i64 1024 1024 (by omega) (by omega) (by rw [hz2]; omega) (by omega)
    rw [hz1] at this
    exact this
  have h2 := blk_alloc h (.cells D1024 5)
  have hne : w.heap.size ≠ g := by have := blk_lt h; omega
  have hc : (w.alloc (.cells D1024 5)).cell? ⟨g, 10, none⟩ = some (.slice A n m) := (blk_cell h2 10).trans h9
  have hf := blk_frozen h2 10
  have H2 := Aside0.mk h2
  have HF := Aside0.mk (show ∀ (k : Nat) (t : TypeId) (cc : Array Value), w.heap[k]? = some (.cells cc t (0, 0)) → t ≠ 94 → k ≠ g from fun k t cc hk ht e => by subst e; rw [h] at hk; simp at hk; exact ht hk.2.symm)
  clear h h2
  go_enter Tryd.func27, Tryd.ntmps27
  go_wp2
  go_end0
  exact ⟨rfl, w.heap.size, Nat.le_refl _, blk_set H2.out 10 _, ((Below.refl B w).alloc hbase _).setCell hg _, fun k t cc hk ht => (Below.heap_setCell _ ⟨g, 10, none⟩ _ k (HF.out k t cc hk ht)).trans (blk_alloc hk _)⟩
def cs0 (gp gd : Nat) : Array Value := #[.nilFunc, .nilFunc, .nilFunc, .nilFunc, .nilFunc, .nilFunc, .nilFunc, .nilFunc, .nilFunc, .slice (some ⟨gp, 0, none⟩) 32 32, .slice (some ⟨gd, 0, none⟩) 1024 1024, .int .i64 0, .int .i64 0, .int .i64 0, .int .u8 0]
set_option maxHeartbeats 8000000 in
set_option maxRecDepth 100000 in
theorem newP (w : World) : Calls Tryd.prog 48 #[] w fun e w' => ∃ g gp gd, e = .returned (.pointer (some ⟨g, 0, none⟩)) ∧ w.heap.size ≤ g ∧ w'.heap[g]? = some (.cells (#[.nilFunc, .nilFunc, .nilFunc, .nilFunc, .nilFunc, .nilFunc, .nilFunc, .nilFunc, .nilFunc, .slice (some ⟨gp, 0, none⟩) 32 32, .slice (some ⟨gd, 0, none⟩) 65536 65536, .int .i64 0, .int .i64 0, .int .i64 0, .int .u8 0]) 94 (0, 0)) ∧ Below w.heap.size w w' := by
  go_enter Tryd.func48, Tryd.ntmps48
  go_wp2_with (first | ((with_reducible refine gate_dst (N := 2) rfl ?_); refine box_event ?hg (N := 2) ?hd (cs := #[.nilFunc, .nilFunc, .nilFunc, .nilFunc, .nilFunc, .nilFunc, .nilFunc, .nilFunc, .nilFunc, .slice none 0 0, .slice none 0 0, .int .i64 0, .int .i64 0, .int .i64 0, .int .u8 0]) (t := 94) ?hr ?_; (case hd => rfl); (case hg => rfl); (case hr => first | (go_simp; done) | (go_simp; rfl)); intro g hg w1 hbox hb; have BK := Aside0.mk hbox; have HB := Aside0.mk hb; have GE := Aside0.mk (Nat.le_of_eq hg.symm); clear hbox hb hg) | fail)
  refine (setParams w1 w.heap.size g _ none 0 0 BK.out rfl GE.out HB.out.size).mono ?_
  rintro e w2 ⟨rfl, gp, hgp, h2, hp2, hb2⟩
  have B2 := Aside0.mk (HB.out.trans hb2)
  have K2 := Aside0.mk h2
  clear h2 hp2 hb2 hgp
  go_wp2_with fail
  refine (setData65536 w2 w.heap.size g _ none 0 0 K2.out rfl GE.out B2.out.size).mono ?_
  rintro e w3 ⟨rfl, gd, hgd, h3, hb3⟩
  have B3 := Aside0.mk (B2.out.trans hb3)
  have K3 := Aside0.mk h3
  clear h3 hb3 hgd
  go_wp2
  go_ret
  exact ⟨g, gp, gd, rfl, GE.out, K3.out.trans rfl, B3.out⟩
set_option maxHeartbeats 8000000 in
set_option maxRecDepth 100000 in
theorem newParser_ (w : World) : Calls Tryd.prog 26 #[.int .i64 32, .int .i64 1024] w fun e w' => ∃ g gp gd, e = .returned (.pointer (some ⟨g, 0, none⟩)) ∧ w.heap.size ≤ g ∧ w.heap.size ≤ gp ∧ w'.heap[g]? = some (.cells (cs0 gp gd) 94 (0, 0)) ∧ w'.heap[gp]? = some (.cells P32 3 (0, 0)) ∧ Below w.heap.size w w' := by
  go_enter Tryd.func26, Tryd.ntmps26
  go_wp2_with fail
  refine (newP w).mono ?_
  rintro e w1 ⟨g, gp0, gd0, rfl, hg, h1, hb1⟩
  have HG := Aside0.mk hg
  have HB := Aside0.mk hb1
  have K1 := Aside0.mk h1
  clear hg hb1 h1
  go_wp2_with fail
  refine (setParams w1 w.heap.size g _ _ 32 32 K1.out rfl HG.out HB.out.size).mono ?_
  rintro e w2 ⟨rfl, gp, hgp, h2, hp2, hb2⟩
  have B2 := Aside0.mk (HB.out.trans hb2)
  have K2 := Aside0.mk h2
  have P2 := Aside0.mk hp2
  have HP := Aside0.mk (Nat.le_trans HB.out.size hgp)
  clear h2 hp2 hb2 hgp
  go_wp2_with fail
  refine (setData1024 w2 (w.heap.size) g _ _ 65536 65536 K2.out rfl HG.out B2.out.size).mono ?_
  rintro e w3 ⟨rfl, gd, hgd, h3, hb3, hf3⟩
  have B3 := Aside0.mk (B2.out.trans hb3)
  have K3 := Aside0.mk h3
  have P3 := Aside0.mk (hf3 gp 3 P32 P2.out (by decide))
  clear h3 hb3 hgd hf3
  go_wp2
  go_ret
  exact ⟨g, gp, gd, rfl, HG.out, HP.out, K3.out.trans rfl, P3.out, B3.out⟩
end Go.Proofs.YtmpmfdghdaofhaaDoor.Ma
