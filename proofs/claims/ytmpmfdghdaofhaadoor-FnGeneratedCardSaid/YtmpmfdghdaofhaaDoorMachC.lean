/- The parser's clear, and performAction at the action clear, by hand. -/
import Derived.Test.YtmpmfdghdaofhaaDoorPZx0
namespace Go.Proofs.YtmpmfdghdaofhaaDoor.Ma
set_option linter.unusedVariables false
set_option linter.unusedSimpArgs false
open Go Go.RowKit Go.Proofs.YtmpmfdghdaofhaaDoorW.PrintWords Go.Proofs.YtmpmfdghdaofhaaDoorW.PrintLast Go.Proofs.YtmpmfdghdaofhaaDoorW.PrintMore

/-- A handler: the closure f over the box gb. -/
def fn (f gb : Nat) : Value := .func (.func f) #[] #[.pointer (some ⟨gb, 0, none⟩)]
/-- A parser's cells. -/
def cs (gb gp gd : Nat) (dl pl cmd st : Int) : Array Value :=
  #[fn 58 gb, fn 59 gb, fn 60 gb, fn 61 gb, fn 62 gb, fn 63 gb, fn 64 gb, fn 65 gb, fn 66 gb,
    .slice (some ⟨gp, 0, none⟩) 32 32, .slice (some ⟨gd, 0, none⟩) 1024 1024, .int .i64 dl, .int .i64 pl, .int .i64 cmd, .int .u8 st]
/-- The parser at block g, its parameters at block gp: the first of them is p0, the others are none of ours. -/
def PS (W : World) (g gb gp gd : Nat) (dl pl cmd st p0 : Int) : Prop :=
  W.heap[g]? = some (.cells (cs gb gp gd dl pl cmd st) 94 (0, 0)) ∧ ∃ ps : Array Value, ps.size = 32 ∧ ps[0]? = some (.int .i64 p0) ∧ W.heap[gp]? = some (.cells ps 3 (0, 0))
/-- What lies apart from the parser and its parameters is as it was. -/
def Far (w w' : World) (g gp : Nat) : Prop := w.heap.size ≤ w'.heap.size ∧ ∀ k, k < w.heap.size → k ≠ g → k ≠ gp → w'.heap[k]? = w.heap[k]?
theorem Far.refl (w : World) (g gp : Nat) : Far w w g gp := ⟨Nat.le_refl _, fun _ _ _ _ => rfl⟩
theorem Far.trans {a b c : World} {g gp : Nat} (h : Far a b g gp) (k : Far b c g gp) : Far a c g gp :=
  ⟨Nat.le_trans h.1 k.1, fun i hi h1 h2 => (k.2 i (Nat.lt_of_lt_of_le hi h.1) h1 h2).trans (h.2 i hi h1 h2)⟩
theorem Far.of_below {a b : World} {g gp : Nat} (h : Below a.heap.size a b) : Far a b g gp := ⟨h.size, fun i hi _ _ => h.block i hi⟩
theorem Far.set {a b : World} {g gp j : Nat} (h : Far a b g gp) (v : Value) : Far a (b.setCell ⟨g, j, none⟩ v) g gp :=
  ⟨by simpa [World.setCell] using h.1, fun i hi h1 h2 => (Below.heap_setCell b ⟨g, j, none⟩ v i h1).trans (h.2 i hi h1 h2)⟩
theorem Far.setp {a b : World} {g gp j : Nat} (h : Far a b g gp) (v : Value) : Far a (b.setCell ⟨gp, j, none⟩ v) g gp :=
  ⟨by simpa [World.setCell] using h.1, fun i hi h1 h2 => (Below.heap_setCell b ⟨gp, j, none⟩ v i h2).trans (h.2 i hi h1 h2)⟩
theorem PS.ne {W : World} {g gb gp gd : Nat} {dl pl cmd st p0 : Int} (h : PS W g gb gp gd dl pl cmd st p0) : g ≠ gp := by
  rintro rfl
  obtain ⟨h1, ps, _, _, h2⟩ := h
  rw [h1] at h2
  simp at h2
/-- A field of the parser is set. -/
theorem PS.set_dl {W : World} {g gb gp gd : Nat} {dl pl cmd st p0 : Int} (h : PS W g gb gp gd dl pl cmd st p0) (x : Int) : PS (W.setCell ⟨g, 11, none⟩ (.int .i64 x)) g gb gp gd x pl cmd st p0 := by
  have hne := h.ne
  obtain ⟨h1, ps, hs, hp, h2⟩ := h
  exact ⟨(blk_set h1 11 _).trans rfl, ps, hs, hp, blk_far h2 (p := ⟨g, 11, none⟩) (fun e => hne e.symm) _⟩
theorem PS.set_pl {W : World} {g gb gp gd : Nat} {dl pl cmd st p0 : Int} (h : PS W g gb gp gd dl pl cmd st p0) (x : Int) : PS (W.setCell ⟨g, 12, none⟩ (.int .i64 x)) g gb gp gd dl x cmd st p0 := by
  have hne := h.ne
  obtain ⟨h1, ps, hs, hp, h2⟩ := h
  exact ⟨(blk_set h1 12 _).trans rfl, ps, hs, hp, blk_far h2 (p := ⟨g, 12, none⟩) (fun e => hne e.symm) _⟩
theorem PS.set_cmd {W : World} {g gb gp gd : Nat} {dl pl cmd st p0 : Int} (h : PS W g gb gp gd dl pl cmd st p0) (x : Int) : PS (W.setCell ⟨g, 13, none⟩ (.int .i64 x)) g gb gp gd dl pl x st p0 := by
  have hne := h.ne
  obtain ⟨h1, ps, hs, hp, h2⟩ := h
  exact ⟨(blk_set h1 13 _).trans rfl, ps, hs, hp, blk_far h2 (p := ⟨g, 13, none⟩) (fun e => hne e.symm) _⟩
theorem PS.set_st {W : World} {g gb gp gd : Nat} {dl pl cmd st p0 : Int} (h : PS W g gb gp gd dl pl cmd st p0) (x : Int) : PS (W.setCell ⟨g, 14, none⟩ (.int .u8 x)) g gb gp gd dl pl cmd x p0 := by
  have hne := h.ne
  obtain ⟨h1, ps, hs, hp, h2⟩ := h
  exact ⟨(blk_set h1 14 _).trans rfl, ps, hs, hp, blk_far h2 (p := ⟨g, 14, none⟩) (fun e => hne e.symm) _⟩
theorem PS.set_p0 {W : World} {g gb gp gd : Nat} {dl pl cmd st p0 : Int} (h : PS W g gb gp gd dl pl cmd st p0) (x : Int) : PS (W.setCell ⟨gp, 0, none⟩ (.int .i64 x)) g gb gp gd dl pl cmd st x := by
  have hne := h.ne
  obtain ⟨h1, ps, hs, hp, h2⟩ := h
  refine ⟨blk_far h1 (p := ⟨gp, 0, none⟩) hne _, ps.setIfInBounds 0 (.int .i64 x), by simpa using hs, ?_, blk_set h2 0 _⟩
  rw [Array.getElem?_setIfInBounds_self_of_lt (by omega)]
theorem PS.far {W W' : World} {g gb gp gd : Nat} {dl pl cmd st p0 : Int} (h : PS W g gb gp gd dl pl cmd st p0) (hb : Below W.heap.size W W') : PS W' g gb gp gd dl pl cmd st p0 := by
  obtain ⟨h1, ps, hs, hp, h2⟩ := h
  exact ⟨(hb.block _ (blk_lt h1)).trans h1, ps, hs, hp, (hb.block _ (blk_lt h2)).trans h2⟩
theorem PS.cell {W : World} {g gb gp gd : Nat} {dl pl cmd st p0 : Int} (h : PS W g gb gp gd dl pl cmd st p0) (j : Nat) : W.cell? ⟨g, j, none⟩ = (cs gb gp gd dl pl cmd st)[j]? := blk_cell h.1 j
theorem PS.free {W : World} {g gb gp gd : Nat} {dl pl cmd st p0 : Int} (h : PS W g gb gp gd dl pl cmd st p0) (j : Nat) : W.frozen? ⟨g, j, none⟩ = false := blk_frozen h.1 j
theorem PS.cellp {W : World} {g gb gp gd : Nat} {dl pl cmd st p0 : Int} (h : PS W g gb gp gd dl pl cmd st p0) : W.cell? ⟨gp, 0, none⟩ = some (.int .i64 p0) := by
  obtain ⟨h1, ps, hs, hp, h2⟩ := h
  exact (blk_cell h2 0).trans hp
theorem PS.freep {W : World} {g gb gp gd : Nat} {dl pl cmd st p0 : Int} (h : PS W g gb gp gd dl pl cmd st p0) (j : Nat) : W.frozen? ⟨gp, j, none⟩ = false := by
  obtain ⟨h1, ps, hs, hp, h2⟩ := h
  exact blk_frozen h2 j

set_option maxHeartbeats 8000000 in
set_option maxRecDepth 100000 in
theorem clear_ (w : World) (B g gb gp gd : Nat) (dl pl cmd st p0 : Int) (h : PS w g gb gp gd dl pl cmd st p0) (hg : B ≤ g) (hgp : B ≤ gp) :
    Calls Tryd.prog 71 #[.pointer (some ⟨g, 0, none⟩)] w fun e w' => e = .returned (.tuple #[]) ∧ PS w' g gb gp gd dl 0 0 st 2147483647 ∧ Below B w w' ∧ Far w w' g gp := by
  have H1 := h.set_p0 2147483647
  have H2 := H1.set_pl 0
  have H3 := Aside0.mk (H2.set_cmd 0)
  have h9 : w.cell? ⟨g, 9, none⟩ = some (.slice (some ⟨gp, 0, none⟩) 32 32) := (h.cell 9).trans rfl
  have q0 : w.cell? ⟨gp, 0, none⟩ = some (.int .i64 p0) := h.cellp
  have qf := h.freep 0
  have h12 : (w.setCell ⟨gp, 0, none⟩ (.int .i64 2147483647)).cell? ⟨g, 12, none⟩ = some (.int .i64 pl) := (H1.cell 12).trans rfl
  have f12 := H1.free 12
  have h13 : ((w.setCell ⟨gp, 0, none⟩ (.int .i64 2147483647)).setCell ⟨g, 12, none⟩ (.int .i64 0)).cell? ⟨g, 13, none⟩ = some (.int .i64 cmd) := (H2.cell 13).trans rfl
  have f13 := H2.free 13
  clear h H1 H2
  go_enter Tryd.func71, Tryd.ntmps71
  go_wp2
  go_end0
  exact ⟨rfl, H3.out, (((Below.refl B w).setCell hgp _).setCell hg _).setCell hg _, (((Far.refl w g gp).setp _).set _).set _⟩

end Go.Proofs.YtmpmfdghdaofhaaDoor.Ma
