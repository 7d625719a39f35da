/- performAction at the actions clear and print, by hand. -/
import Derived.Test.YtmpmfdghdaofhaaDoorMachP
namespace Go.Proofs.YtmpmfdghdaofhaaDoor.Ma
set_option linter.unusedVariables false
set_option linter.unusedSimpArgs false
open Go Go.RowKit Go.Proofs.YtmpmfdghdaofhaaDoorW.PrintWords Go.Proofs.YtmpmfdghdaofhaaDoorW.PrintLast Go.Proofs.YtmpmfdghdaofhaaDoorW.PrintMore

set_option maxHeartbeats 8000000 in
set_option maxRecDepth 100000 in
theorem perf_clear (w : World) (B g gb gp gd : Nat) (dl pl cmd st p0 st2 b : Int) (h : PS w g gb gp gd dl pl cmd st p0) (hg : B ≤ g) (hgp : B ≤ gp) :
    Calls Tryd.prog 68 #[.pointer (some ⟨g, 0, none⟩), .int .u8 1, .int .u8 st2, .int .u8 b] w fun e w' => e = .returned (.tuple #[]) ∧ PS w' g gb gp gd dl 0 0 st 2147483647 ∧ Below B w w' ∧ Far w w' g gp := by
  have H := Aside0.mk h
  clear h
  go_enter Tryd.func68, Tryd.ntmps68
  go_wp2_with fail
  refine (clear_ w B g gb gp gd dl pl cmd st p0 H.out hg hgp).mono ?_
  rintro e w1 ⟨rfl, h1, h2, h3⟩
  go_wp2
  go_end0
  exact ⟨rfl, h1, h2, h3⟩

set_option maxHeartbeats 8000000 in
set_option maxRecDepth 100000 in
theorem perf_print (w : World) (B g gb gp gd go : Nat) (dl pl cmd st p0 st2 : Int) (xs : List (List Value)) (h : PS w g gb gp gd dl pl cmd st p0) (hg : B ≤ g) (hgp : B ≤ gp) (hB : B ≤ go) (hx : xs.length ≤ 1000000) (hbase : B ≤ w.heap.size) (hptr : Ptr w gb go) (hout : OutS w B go xs) :
    Calls Tryd.prog 68 #[.pointer (some ⟨g, 0, none⟩), .int .u8 9, .int .u8 st2, .int .u8 65] w fun e w' => e = .returned (.tuple #[]) ∧ PS w' g gb gp gd dl pl 65 st p0 ∧ Ptr w' gb go ∧ OutS w' B go (xs ++ [[.int .i64 0, .int .i64 65, .int .u8 0, .int .i64 0, .slice none 0 0, .slice none 0 0]]) ∧ Below B w w' := by
  have H1 := h.set_cmd 65
  have h13 : w.cell? ⟨g, 13, none⟩ = some (.int .i64 cmd) := (h.cell 13).trans rfl
  have f13 := h.free 13
  have h0 : (w.setCell ⟨g, 13, none⟩ (.int .i64 65)).cell? ⟨g, 0, none⟩ = some (.func (.func 58) #[] #[.pointer (some ⟨gb, 0, none⟩)]) := (H1.cell 0).trans rfl
  have P1 := Aside0.mk (show Ptr (w.setCell ⟨g, 13, none⟩ (.int .i64 65)) gb go from (Below.heap_setCell w ⟨g, 13, none⟩ _ gb (fun e => by subst e; unfold Ptr at hptr; rw [h.1] at hptr; simp at hptr)).trans hptr)
  have O1 := Aside0.mk (show OutS (w.setCell ⟨g, 13, none⟩ (.int .i64 65)) B go xs from by
    obtain ⟨v, ho, hr⟩ := hout
    exact ⟨v, (Below.heap_setCell w ⟨g, 13, none⟩ _ go (fun e => by subst e; rw [h.1] at ho; simp at ho)).trans ho, Kd.R_set hr h.1 (by decide) 13 _⟩)
  have H1 := Aside0.mk H1
  have HBS := Aside0.mk (show B ≤ (w.setCell ⟨g, 13, none⟩ (.int .i64 65)).heap.size by simpa [World.setCell] using hbase)
  have hb0 := Aside0.mk (show Below B w (w.setCell ⟨g, 13, none⟩ (.int .i64 65)) from (Below.refl B w).setCell hg _)
  have hq : ∀ w_ : World, (binOp .neq 83 (.func (.func 58) #[] #[.pointer (some ⟨gb, 0, none⟩)]) .nilFunc).run Tryd.prog w_ = .ok (.bool true) w_ := fun w_ => by kernel_rfl
  clear h hptr hout hbase
  go_enter Tryd.func68, Tryd.ntmps68
  go_wp2_with fail
  refine (pr_ _ B gb go xs 65 hB hx HBS.out P1.out O1.out).mono ?_
  rintro e w1 ⟨rfl, ho1, hb1, hf1⟩
  go_wp2
  go_end0
  rw [show wrap64 (65 : Int) = 65 by unfold wrap64; omega] at ho1
  obtain ⟨h1, ps, hs, hp, h2⟩ := H1.out
  exact ⟨rfl, ⟨hf1 _ _ _ h1 (by decide) (by decide), ps, hs, hp, hf1 _ _ _ h2 (by decide) (by decide)⟩, hf1 _ _ _ P1.out (by decide) (by decide), ho1, hb0.out.trans hb1⟩

end Go.Proofs.YtmpmfdghdaofhaaDoor.Ma
