/- Texts of this claim, joined; what isn't needed is left out (wip/slim.py). -/
import Derived.Test.YtmpmfdghdaofhaaDoorZH16
import Derived.Test.YtmpmfdghdaofhaaDoorZH13
namespace Go.Proofs.YtmpmfdghdaofhaaDoor.Ma
set_option linter.unusedVariables false
set_option linter.unusedSimpArgs false
open Go Go.RowKit Go.Proofs.YtmpmfdghdaofhaaDoorW.PrintWords Go.Proofs.YtmpmfdghdaofhaaDoorW.PrintLast Go.Proofs.YtmpmfdghdaofhaaDoorW.PrintMore
theorem info54 : (Tryd.prog.info? 54).map (fun i => (i.zero, i.size, i.bytes)) = some (some (.agg #[.int .i64 0, .int .i64 0, .int .u8 0, .int .i64 0, .slice none 0 0, .slice none 0 0]), 6, 80) := by kernel_rfl
def Ptr (W : World) (gb go : Nat) : Prop := W.heap[gb]? = some (.cells #[.pointer (some ⟨go, 0, none⟩)] 75 (0, 0))
def OutS (W : World) (B go : Nat) (xs : List (List Value)) : Prop := ∃ v, W.heap[go]? = some (.cells #[v] 51 (0, 0)) ∧ Kd.R (Kd.raw 6) 54 W B (fun _ => True) v xs
def FarT (w w' : World) : Prop := ∀ (k : Nat) (c : Array Value) (t : TypeId), w.heap[k]? = some (.cells c t (0, 0)) → t ≠ 54 → t ≠ 51 → w'.heap[k]? = some (.cells c t (0, 0))
def pr_T : Bool × List (List Nat × List Nat) := (true, [([], []), ([], []), ([1], [1]), ([2], [2]), ([], []), ([4], [4]), ([5], [5]), ([6], [6]), ([3, 7], [3, 7]), ([0, 0, 1, 2, 3, 4, 5, 6, 7, 8], [0]), ([9, 8, 8, 0, 1, 2, 3, 4, 5, 6, 7, 8], [8, 9])])
def pr_B : List Nat := [0, 0, 2, 6, 0, 16, 48, 112, 254, 511, 1023]
theorem pr__tab : rtab .any (opsOf Tryd.f58 0) = pr_T := by kernel_rfl
theorem pr__bits : waitsOk pr_T.2 pr_B = true := by kernel_rfl
set_option maxHeartbeats 8000000 in
set_option maxRecDepth 100000 in
theorem pr_ (w : World) (B gb go : Nat) (xs : List (List Value)) (b : Int) (hB : B ≤ go) (hx : xs.length ≤ 1000000) (hbase : B ≤ w.heap.size) (hptr : Ptr w gb go) (hout : OutS w B go xs) :
    Calls Tryd.prog 58 #[.int .i32 b, .pointer (some ⟨gb, 0, none⟩)] w fun e w' => e = .returned (.tuple #[]) ∧ OutS w' B go (xs ++ [[.int .i64 0, .int .i64 (wrap64 b), .int .u8 0, .int .i64 0, .slice none 0 0, .slice none 0 0]]) ∧ Below B w w' ∧ FarT w w' := by
  obtain ⟨v, hg, hr⟩ := hout
  obtain ⟨A, c, rfl⟩ := Kd.R_slice hr
  have hp : w.cell? ⟨gb, 0, none⟩ = some (.pointer (some ⟨go, 0, none⟩)) := (blk_cell hptr 0).trans rfl
  have ho : w.cell? ⟨go, 0, none⟩ = some (.slice A xs.length c) := (blk_cell hg 0).trans rfl
  have hne : some go ≠ (.slice A xs.length c : Value).ownBlock := Kd.R_away (Kd.R_types hr hg (by decide)) (fun _ hk => hk.2)
  have hty : ∀ (k : Nat) (cc : Array Value) (t : TypeId), w.heap[k]? = some (.cells cc t (0, 0)) → t ≠ 54 → some k ≠ (.slice A xs.length c : Value).ownBlock := by
    intro k cc t hk h54 e
    obtain ⟨cc', hk'⟩ := Kd.R_typed hr k e.symm
    rw [hk] at hk'
    simp at hk'
    exact h54 hk'.2
  obtain ⟨ys, hys⟩ : ∃ ys, ys = xs ++ [[.int .i64 0, .int .i64 (wrap64 b), .int .u8 0, .int .i64 0, .slice none 0 0, .slice none 0 0]] := ⟨_, rfl⟩
  rw [← hys]
  have HY := Aside0.mk hys
  clear hys
  have HR := Aside0.mk hr
  have HG := Aside0.mk hg
  have HP := Aside0.mk (show w.heap[gb]? = some (.cells #[.pointer (some ⟨go, 0, none⟩)] 75 (0, 0)) from hptr)
  have HBL := Aside0.mk (Below.refl B w)
  have HBS := Aside0.mk hbase
  clear hr hg hptr hbase
  go_enter Tryd.func58, Tryd.ntmps58
  refine start_ (n := 11) (S := (fun w' => w'.cell? ⟨gb, 0, none⟩ = some (.pointer (some ⟨go, 0, none⟩)) ∧ w'.cell? ⟨go, 0, none⟩ = some (.slice A xs.length c))) (ds := [10]) #[false, false, false, false, false, false, false, false, false, false, false] (by kernel_rfl) rfl rfl ⟨hp, ho⟩ (fun hHeld => ?_)
  refine with_tabW pr__tab pr__bits (fun HT_ HW_ => ?_)
  have HR2 := Aside0.mk (Kd.R_drew HR.out)
  have HBL2 := Aside0.mk HBL.out.drew
  have HG2 := Aside0.mk (show w.drew.heap[go]? = _ from HG.out)
  have HBS2 := Aside0.mk (show B ≤ w.drew.heap.size from HBS.out)
  have HP2 := Aside0.mk (show w.drew.heap[gb]? = _ from HP.out)
  have HDW := Aside0.mk (show ∀ k : Nat, k < w.heap.size → w.drew.heap[k]? = w.heap[k]? from fun _ _ => rfl)
  generalize w.drew = wd at HR2 HBL2 HG2 HP2 HBS2 HDW hHeld ⊢
  refine pure_ (i := 4) (N := some 7) (v := ?_) (a' := ?_) (zF 11 16) rfl rfl (any_of HT_.out (by kernel_rfl)) (fun _ _ _ h => h) (Or.inl ⟨by rfl, ?_⟩) ?_ ?_
  rotate_left; (intro w'; go_simp; with_reducible rfl); rotate_left; (simp only [Act.put, zA, zZ, zS, i64_w, i32_w]; rfl)
  refine pure_ (i := 5) (N := some 8) (v := ?_) (a' := ?_) (zF 11 48) rfl rfl (any_of HT_.out (by kernel_rfl)) (fun _ _ _ h => h) (Or.inl ⟨by rfl, ?_⟩) ?_ ?_
  rotate_left; (intro w'; go_simp; with_reducible rfl); rotate_left; (simp only [Act.put, zA, zZ, zS, i64_w, i32_w]; rfl)
  refine pure_ (i := 6) (N := some 9) (v := ?_) (a' := ?_) (zF 11 112) rfl rfl (any_of HT_.out (by kernel_rfl)) (fun _ _ _ h => h) (Or.inl ⟨by rfl, ?_⟩) ?_ ?_
  rotate_left; (intro w'; go_simp; with_reducible rfl); rotate_left; (simp only [Act.put, zA, zZ, zS, i64_w, i32_w]; rfl)
  refine take_ (i := 0) (N := some 3) (v := ?_) (a' := ?_) (zF 11 113) rfl rfl (take_ofW HT_.out HW_.out (by kernel_rfl)) (fun _ _ _ h => h) (Or.inl ⟨by rfl, ?_⟩) hHeld ?_ ?_
  rotate_left; (rintro w' ⟨s0, s1⟩; go_simp; with_reducible rfl); rotate_left; (simp only [Act.put, zA, zZ, zS, i64_w, i32_w]; rfl)
  refine take_ (i := 1) (N := some 4) (v := ?_) (a' := ?_) (zF 11 115) rfl rfl (take_ofW HT_.out HW_.out (by kernel_rfl)) (fun _ _ _ h => h) (Or.inl ⟨by rfl, ?_⟩) hHeld ?_ ?_
  rotate_left; (rintro w' ⟨s0, s1⟩; go_simp; with_reducible rfl); rotate_left; (simp only [Act.put, zA, zZ, zS, i64_w, i32_w]; rfl)
  refine pure_ (i := 2) (N := some 5) (v := ?_) (a' := ?_) (zF 11 119) rfl rfl (any_of HT_.out (by kernel_rfl)) (fun _ _ _ h => h) (Or.inl ⟨by rfl, ?_⟩) ?_ ?_
  rotate_left; (intro w'; go_simp; with_reducible rfl); rotate_left; (simp only [Act.put, zA, zZ, zS, i64_w, i32_w]; rfl)
  refine take_ (i := 3) (N := some 6) (v := ?_) (a' := ?_) (zF 11 127) rfl rfl (take_ofW HT_.out HW_.out (by kernel_rfl)) (fun _ _ _ h => h) (Or.inl ⟨by rfl, ?_⟩) hHeld ?_ ?_
  rotate_left; (rintro w' ⟨s0, s1⟩; go_simp; with_reducible rfl); rotate_left; (simp only [Act.put, zA, zZ, zS, i64_w, i32_w]; rfl)
  refine one_ (i := 7) (N := some 10) (zF 11 255) rfl rfl (one_of HT_.out (by kernel_rfl)) (by decide) (fun K hK => ?_)
  refine value_ (w1 := ?_) (v := ?_) (by rfl) rfl ?_ ?_
  rotate_left 2
  · go_simp
    constructor
    · rfl
    · rfl
  refine hK.out _ _ ⟨(blk_cell (blk_alloc HP2.out _) 0).trans rfl, (blk_cell (blk_alloc HG2.out _) 0).trans rfl⟩ (fun hHeld => ?_)
  clear hK K
  refine norm_ (a' := ?_) ?_ ?_
  rotate_left
  · show Act.put _ (some 10) _ = _
    simp only [Act.put, zA, zZ, zS, i64_w, i32_w]
    rfl
  refine one_ (i := 8) (N := some 11) (zF 11 511) rfl rfl (one_of HT_.out (by kernel_rfl)) (by decide) (fun K hK => ?_)
  refine Kd.R_append_step (Kd.raw 6) (w0 := w) B (by rfl) (.tmp 6) (.tmp 10) 51 54 (.agg #[.int .i64 0, .int .i64 0, .int .u8 0, .int .i64 0, .slice none 0 0, .slice none 0 0]) 80 rfl Tryd.underlying51 info54 rfl (by decide) (by omega) (.slice A xs.length c) xs [.int .i64 0, .int .i64 (wrap64 b), .int .u8 0, .int .i64 0, .slice none 0 0, .slice none 0 0] [.int .i64 0, .int .i64 (wrap64 b), .int .u8 0, .int .i64 0, .slice none 0 0, .slice none 0 0] (fun _ => True) (fun _ => False) rfl rfl ?aP (fun _ hk => hk.elim) ?aF ?aO ?aB ?aS ?aL ?_
  (case aP => exact ⟨rfl, rfl, fun u hu => by simp at hu; rcases hu with rfl | rfl | rfl | rfl | rfl | rfl <;> rfl⟩)
  (case aF => exact (fun _ _ => trivial))
  (case aO => exact HR2.out)
  (case aB => exact HBL2.out)
  (case aS => exact HBS2.out)
  (case aL => have := hx; omega)
  intro v1 w1 ho hb1 hg1 hat
  rw [← HY.out] at ho
  obtain ⟨A1, c1, e1⟩ := Kd.R_slice ho
  subst e1
  have HO1 := Aside0.mk ho
  have HB1 := Aside0.mk hb1
  have BK1 := Aside0.mk (blk_grown HG2.out hg1 hne)
  have BP1 := Aside0.mk (blk_grown HP2.out hg1 (hty gb _ _ HP.out (by decide)))
  have FT1 := Aside0.mk (show FarT w w1 from fun k cc t hk h54 h51 => (hg1.block k (blk_lt ((HDW.out k (blk_lt hk)).trans hk)) (fun e => hty k cc t hk h54 e)).trans ((HDW.out k (blk_lt hk)).trans hk))
  clear ho hb1 hg1 hat
  have hc1 : w1.cell? ⟨go, 0, none⟩ = some (.slice A xs.length c) := (blk_cell BK1.out 0).trans rfl
  have hf1 := blk_frozen BK1.out 0
  refine hK.out _ _ ⟨(blk_cell BP1.out 0).trans rfl, hc1⟩ (fun hHeld => ?_)
  clear hK K
  refine norm_ (a' := ?_) ?_ ?_
  rotate_left
  · show Act.put _ (some 11) _ = _
    simp only [Act.put, zA, zZ, zS, i64_w, i32_w]
    rfl
  refine pure_ (i := 9) (N := some 12) (v := ?_) (a' := ?_) (zF 11 1023) rfl rfl (any_of HT_.out (by kernel_rfl)) (fun _ _ _ h => h) (Or.inl ⟨by rfl, ?_⟩) ?_ ?_
  rotate_left; (intro w'; go_simp; with_reducible rfl); rotate_left; (simp only [Act.put, zA, zZ, zS, i64_w, i32_w]; rfl)
  refine last_ (i := 10) (N := none) (zF 11 2047) rfl rfl (one_of HT_.out (by kernel_rfl)) (by decide) (fun K hK => ?_)
  refine skip_ (w1 := ?_) (by rfl) rfl ?_ ?_
  rotate_left
  · go_simp
    with_reducible rfl
  refine hK.out _ _ ?_
  clear hK K
  refine done_ (done_of HT_.out (by kernel_rfl)) ?_
  go_end0
  exact ⟨rfl, ⟨_, blk_set BK1.out 0 _, Kd.R_set HO1.out BK1.out (by decide) 0 _⟩, HB1.out.setCell hB _, fun k cc t hk h54 h51 => (Below.heap_setCell _ ⟨go, 0, none⟩ _ k (fun e => by subst e; rw [HG.out] at hk; simp at hk; exact h51 hk.2.symm)).trans (FT1.out k cc t hk h54 h51)⟩
end Go.Proofs.YtmpmfdghdaofhaaDoor.Ma

namespace Go.Proofs.YtmpmfdghdaofhaaDoor.Ma
set_option linter.unusedVariables false
set_option linter.unusedSimpArgs false
open Go Go.RowKit Go.Proofs.YtmpmfdghdaofhaaDoorW.PrintWords Go.Proofs.YtmpmfdghdaofhaaDoorW.PrintLast Go.Proofs.YtmpmfdghdaofhaaDoorW.PrintMore
set_option maxHeartbeats 8000000 in
set_option maxRecDepth 100000 in
theorem perf_clear (w : World) (B g gb gp gd : Nat) (dl pl cmd st p0 st2 b : Int) (h : PS w g gb gp gd dl pl cmd st p0) (hg : B ≤ g) (hgp : B ≤ gp) :
    Calls Tryd.prog 68 #[.pointer (some ⟨g, 0, none⟩), .int .u8 1, .int .u8 st2, .int .u8 b] w fun e w' => e = .returned (.tuple #[]) ∧ PS w' g gb gp gd dl 0 0 st 2147483647 ∧ Below B w w' ∧ Far w w' g gp := by
  have H := Aside0.mk h
  clear h
  go_enter Tryd.func68, Tryd.ntmps68
  go_wp2_with fail
  refine (clear_ w B g gb gp gd dl pl cmd st p0 H.out hg hgp).mono ?_
  rintro e w1 ⟨rfl, h1, h2, h3⟩
  go_wp2
  go_end0
  exact ⟨rfl, h1, h2, h3⟩
set_option maxHeartbeats 8000000 in
set_option maxRecDepth 100000 in
theorem perf_print (w : World) (B g gb gp gd go : Nat) (dl pl cmd st p0 st2 : Int) (xs : List (List Value)) (h : PS w g gb gp gd dl pl cmd st p0) (hg : B ≤ g) (hgp : B ≤ gp) (hB : B ≤ go) (hx : xs.length ≤ 1000000) (hbase : B ≤ w.heap.size) (hptr : Ptr w gb go) (hout : OutS w B go xs) :
    Calls Tryd.prog 68 #[.pointer (some ⟨g, 0, none⟩), .int .u8 9, .int .u8 st2, .int .u8 65] w fun e w' => e = .returned (.tuple #[]) ∧ PS w' g gb gp gd dl pl 65 st p0 ∧ Ptr w' gb go ∧ OutS w' B go (xs ++ [[.int .i64 0, .int .i64 65, .int .u8 0, .int .i64 0, .slice none 0 0, .slice none 0 0]]) ∧ Below B w w' := by
  have H1 := h.set_cmd 65
  have h13 : w.cell? ⟨g, 13, none⟩ = some (.int .i64 cmd) := (h.cell 13).trans rfl
  have f13 := h.free 13
  have h0 : (w.setCell ⟨g, 13, none⟩ (.int .i64 65)).cell? ⟨g, 0, none⟩ = some (.func (.func 58) #[] #[.pointer (some ⟨gb, 0, none⟩)]) := (H1.cell 0).trans rfl
  have P1 := Aside0.mk (show Ptr (w.setCell ⟨g, 13, none⟩ (.int .i64 65)) gb go from (Below.heap_setCell w ⟨g, 13, none⟩ _ gb (fun e => by subst e; unfold Ptr at hptr; rw [h.1] at hptr; simp at hptr)).trans hptr)
  have O1 := Aside0.mk (show OutS (w.setCell ⟨g, 13, none⟩ (.int .i64 65)) B go xs from by
    obtain ⟨v, ho, hr⟩ := hout
    exact ⟨v, (Below.heap_setCell w ⟨g, 13, none⟩ _ go (fun e => by subst e; rw [h.1] at ho; simp at ho)).trans ho, Kd.R_set hr h.1 (by decide) 13 _⟩)
  have H1 := Aside0.mk H1
  have HBS := Aside0.mk (show B ≤ (w.setCell ⟨g, 13, none⟩ (.int .i64 65)).heap.size by simpa [World.setCell] using hbase)
  have hb0 := Aside0.mk (show Below B w (w.setCell ⟨g, 13, none⟩ (.int .i64 65)) from (Below.refl B w).setCell hg _)
  have hq : ∀ w_ : World, (binOp .neq 83 (.func (.func 58) #[] #[.pointer (some ⟨gb, 0, none⟩)]) .nilFunc).run Tryd.prog w_ = .ok (.bool true) w_ := fun w_ => by kernel_rfl
  clear h hptr hout hbase
  go_enter Tryd.func68, Tryd.ntmps68
  go_wp2_with fail
  refine (pr_ _ B gb go xs 65 hB hx HBS.out P1.out O1.out).mono ?_
  rintro e w1 ⟨rfl, ho1, hb1, hf1⟩
  go_wp2
  go_end0
  rw [show wrap64 (65 : Int) = 65 by unfold wrap64; omega] at ho1
  obtain ⟨h1, ps, hs, hp, h2⟩ := H1.out
  exact ⟨rfl, ⟨hf1 _ _ _ h1 (by decide) (by decide), ps, hs, hp, hf1 _ _ _ h2 (by decide) (by decide)⟩, hf1 _ _ _ P1.out (by decide) (by decide), ho1, hb0.out.trans hb1⟩
end Go.Proofs.YtmpmfdghdaofhaaDoor.Ma

namespace Go.Proofs.YtmpmfdghdaofhaaDoor.Ma
set_option linter.unusedVariables false
set_option linter.unusedSimpArgs false
open Go Go.RowKit Go.Proofs.YtmpmfdghdaofhaaDoorW.PrintWords Go.Proofs.YtmpmfdghdaofhaaDoorW.PrintLast Go.Proofs.YtmpmfdghdaofhaaDoorW.PrintMore
theorem ints1 (p : Int) : Go.Proofs.YtmpmfdghdaofhaaDoor.PI.impl_ints.f 2 [p] = some [p] := by
  simp [Go.Proofs.YtmpmfdghdaofhaaDoor.PI.impl_ints.f, Go.Proofs.YtmpmfdghdaofhaaDoor.PI.impl_ints.l0, rd, wrap64]
def csi_T : Bool × List (List Nat × List Nat) := (true, [([], []), ([], []), ([1], [1]), ([2], [2]), ([], []), ([], []), ([5], [5]), ([4, 6], [4, 6]), ([7], [7]), ([3, 8, 6], [3, 8]), ([0, 0, 1, 2, 3, 4, 5, 6, 7, 8, 9], [0]), ([10, 9, 9, 0, 1, 2, 3, 4, 5, 6, 7, 8, 9], [9, 10])])
def csi_B : List Nat := [0, 0, 2, 6, 0, 0, 32, 112, 240, 510, 1023, 2047]
theorem csi__tab : rtab .any (opsOf Tryd.f60 0) = csi_T := by kernel_rfl
theorem csi__bits : waitsOk csi_T.2 csi_B = true := by kernel_rfl
set_option maxHeartbeats 8000000 in
set_option maxRecDepth 100000 in
theorem csi_ (w : World) (B gb go : Nat) (xs : List (List Value)) (cm p0 : Int) (Ap : Option Addr) (cp Bq : Nat) (hB : B ≤ go) (hx : xs.length ≤ 1000000) (hbase : B ≤ w.heap.size) (hptr : Ptr w gb go) (hout : OutS w B go xs) (hq : Kd.R (Kd.int .i64) 98 w Bq (fun _ => True) (.slice Ap 1 cp) [p0]) :
    Calls Tryd.prog 60 #[.int .i64 cm, .slice Ap 1 cp, .pointer (some ⟨gb, 0, none⟩)] w fun e w' => e = .returned (.tuple #[]) ∧ (∃ Ai ci, OutS w' B go (xs ++ [[.int .i64 2, .int .i64 0, .int .u8 0, .int .i64 cm, (.slice Ai 1 ci : Value), .slice none 0 0]])) ∧ Below B w w' ∧ FarT w w' := by
  obtain ⟨v, hg, hr⟩ := hout
  obtain ⟨A, c, rfl⟩ := Kd.R_slice hr
  have hp : w.cell? ⟨gb, 0, none⟩ = some (.pointer (some ⟨go, 0, none⟩)) := (blk_cell hptr 0).trans rfl
  have ho : w.cell? ⟨go, 0, none⟩ = some (.slice A xs.length c) := (blk_cell hg 0).trans rfl
  have hne : some go ≠ (.slice A xs.length c : Value).ownBlock := Kd.R_away (Kd.R_types hr hg (by decide)) (fun _ hk => hk.2)
  have hty : ∀ (k : Nat) (cc : Array Value) (t : TypeId), w.heap[k]? = some (.cells cc t (0, 0)) → t ≠ 54 → some k ≠ (.slice A xs.length c : Value).ownBlock := by
    intro k cc t hk h54 e
    obtain ⟨cc', hk'⟩ := Kd.R_typed hr k e.symm
    rw [hk] at hk'
    simp at hk'
    exact h54 hk'.2
  have HQ := Aside0.mk hq
  clear hq
  have HR := Aside0.mk hr
  have HG := Aside0.mk hg
  have HP := Aside0.mk (show w.heap[gb]? = some (.cells #[.pointer (some ⟨go, 0, none⟩)] 75 (0, 0)) from hptr)
  have HBL := Aside0.mk (Below.refl B w)
  have HBS := Aside0.mk hbase
  clear hr hg hptr hbase
  go_enter Tryd.func60, Tryd.ntmps60
  refine start_ (n := 12) (S := (fun w' => w'.cell? ⟨gb, 0, none⟩ = some (.pointer (some ⟨go, 0, none⟩)) ∧ w'.cell? ⟨go, 0, none⟩ = some (.slice A xs.length c))) (ds := [11]) #[false, false, false, false, false, false, false, false, false, false, false, false] (by kernel_rfl) rfl rfl ⟨hp, ho⟩ (fun hHeld => ?_)
  refine with_tabW csi__tab csi__bits (fun HT_ HW_ => ?_)
  have HR2 := Aside0.mk (Kd.R_drew HR.out)
  have HBL2 := Aside0.mk HBL.out.drew
  have HG2 := Aside0.mk (show w.drew.heap[go]? = _ from HG.out)
  have HBS2 := Aside0.mk (show B ≤ w.drew.heap.size from HBS.out)
  have HP2 := Aside0.mk (show w.drew.heap[gb]? = _ from HP.out)
  have HDW := Aside0.mk (show ∀ k : Nat, k < w.heap.size → w.drew.heap[k]? = w.heap[k]? from fun _ _ => rfl)
  have HQ2 := Aside0.mk (Kd.R_drew HQ.out)
  have HSZ := Aside0.mk (show w.drew.heap.size = w.heap.size from rfl)
  generalize w.drew = wd at HQ2 HSZ HR2 HBL2 HG2 HP2 HBS2 HDW hHeld ⊢
  refine pure_ (i := 4) (N := some 9) (v := ?_) (a' := ?_) (zF 12 16) rfl rfl (any_of HT_.out (by kernel_rfl)) (fun _ _ _ h => h) (Or.inl ⟨by rfl, ?_⟩) ?_ ?_
  rotate_left; (intro w'; go_simp; with_reducible rfl); rotate_left; (simp only [Act.put, zA, zZ, zS, i64_w, i32_w]; rfl)
  refine pure_ (i := 5) (N := some 10) (v := ?_) (a' := ?_) (zF 12 48) rfl rfl (any_of HT_.out (by kernel_rfl)) (fun _ _ _ h => h) (Or.inl ⟨by rfl, ?_⟩) ?_ ?_
  rotate_left; (intro w'; go_simp; with_reducible rfl); rotate_left; (simp only [Act.put, zA, zZ, zS, i64_w, i32_w]; rfl)
  refine take_ (i := 0) (N := some 5) (v := ?_) (a' := ?_) (zF 12 49) rfl rfl (take_ofW HT_.out HW_.out (by kernel_rfl)) (fun _ _ _ h => h) (Or.inl ⟨by rfl, ?_⟩) hHeld ?_ ?_
  rotate_left; (rintro w' ⟨s0, s1⟩; go_simp; with_reducible rfl); rotate_left; (simp only [Act.put, zA, zZ, zS, i64_w, i32_w]; rfl)
  refine take_ (i := 1) (N := some 6) (v := ?_) (a' := ?_) (zF 12 51) rfl rfl (take_ofW HT_.out HW_.out (by kernel_rfl)) (fun _ _ _ h => h) (Or.inl ⟨by rfl, ?_⟩) hHeld ?_ ?_
  rotate_left; (rintro w' ⟨s0, s1⟩; go_simp; with_reducible rfl); rotate_left; (simp only [Act.put, zA, zZ, zS, i64_w, i32_w]; rfl)
  refine pure_ (i := 2) (N := some 7) (v := ?_) (a' := ?_) (zF 12 55) rfl rfl (any_of HT_.out (by kernel_rfl)) (fun _ _ _ h => h) (Or.inl ⟨by rfl, ?_⟩) ?_ ?_
  rotate_left; (intro w'; go_simp; with_reducible rfl); rotate_left; (simp only [Act.put, zA, zZ, zS, i64_w, i32_w]; rfl)
  refine take_ (i := 3) (N := some 8) (v := ?_) (a' := ?_) (zF 12 63) rfl rfl (take_ofW HT_.out HW_.out (by kernel_rfl)) (fun _ _ _ h => h) (Or.inl ⟨by rfl, ?_⟩) hHeld ?_ ?_
  rotate_left; (rintro w' ⟨s0, s1⟩; go_simp; with_reducible rfl); rotate_left; (simp only [Act.put, zA, zZ, zS, i64_w, i32_w]; rfl)
  refine one_ (i := 6) (N := some 11) (zF 12 127) rfl rfl (one_of HT_.out (by kernel_rfl)) (by decide) (fun K hK => ?_)
  refine goes_ Tryd.func34 (by kernel_rfl) rfl #[.slice Ap 1 cp] (by rfl) rfl rfl (by (try simp only [List.map_toArray, List.map_cons, List.map_nil]); first | done | rfl | (simp [Act.eval, *]; done)) ?_
  refine (Go.Proofs.YtmpmfdghdaofhaaDoor.PI.impl_ints.calls 2 Ap cp [p0] [p0] _ (Kd.R_reads' HQ2.out).2.2 (Kd.R_reads' HQ2.out).2.1 (ints1 p0)).mono ?_
  rintro e wi ⟨vi, rfl, hri, hbi⟩
  obtain ⟨Ai, ci, rfl⟩ := Kd.R_slice hri
  refine ⟨_, rfl, ?_⟩
  have n0_ := Aside0.mk (Kd.R_below HR2.out hbi)
  have n1_ := Aside0.mk (HBL2.out.trans (hbi.mono HBS2.out))
  have n2_ := Aside0.mk ((hbi.block go (blk_lt HG2.out)).trans HG2.out)
  have n3_ := Aside0.mk ((hbi.block gb (blk_lt HP2.out)).trans HP2.out)
  have n4_ := Aside0.mk (Nat.le_trans HBS2.out hbi.size)
  have n5_ := Aside0.mk (show ∀ k : Nat, k < w.heap.size → wi.heap[k]? = w.heap[k]? from fun k hk => (hbi.block k (by rw [HSZ.out]; exact hk)).trans (HDW.out k hk))
  clear HR2 HBL2 HG2 HP2 HBS2 HDW hri hbi
  have HR2 := n0_
  have HBL2 := n1_
  have HG2 := n2_
  have HP2 := n3_
  have HBS2 := n4_
  have HDW := n5_
  clear n0_ n1_ n2_ n3_ n4_ n5_
  obtain ⟨ys, hys⟩ : ∃ ys : List (List Value), ys = xs ++ [[.int .i64 2, .int .i64 0, .int .u8 0, .int .i64 cm, .slice Ai 1 ci, .slice none 0 0]] := ⟨_, rfl⟩
  have HY := Aside0.mk hys
  clear hys
  refine hK.out _ _ ⟨(blk_cell HP2.out 0).trans rfl, (blk_cell HG2.out 0).trans rfl⟩ (fun hHeld => ?_)
  clear hK K
  refine norm_ (a' := ?_) ?_ ?_
  rotate_left
  · show Act.put _ (some 11) _ = _
    simp only [Act.put, zA, zZ, zS, i64_w, i32_w]
    rfl
  refine pure_ (i := 7) (N := some 12) (v := ?_) (a' := ?_) (zF 12 255) rfl rfl (any_of HT_.out (by kernel_rfl)) (fun _ _ _ h => h) (Or.inl ⟨by rfl, ?_⟩) ?_ ?_
  rotate_left; (intro w'; go_simp; with_reducible rfl); rotate_left; (simp only [Act.put, zA, zZ, zS, i64_w, i32_w]; rfl)
  refine one_ (i := 8) (N := some 13) (zF 12 511) rfl rfl (one_of HT_.out (by kernel_rfl)) (by decide) (fun K hK => ?_)
  refine value_ (w1 := ?_) (v := ?_) (by rfl) rfl ?_ ?_
  rotate_left 2
  · go_simp
    constructor
    · rfl
    · rfl
  refine hK.out _ _ ⟨(blk_cell (blk_alloc HP2.out _) 0).trans rfl, (blk_cell (blk_alloc HG2.out _) 0).trans rfl⟩ (fun hHeld => ?_)
  clear hK K
  refine norm_ (a' := ?_) ?_ ?_
  rotate_left
  · show Act.put _ (some 13) _ = _
    simp only [Act.put, zA, zZ, zS, i64_w, i32_w]
    rfl
  refine one_ (i := 9) (N := some 14) (zF 12 1023) rfl rfl (one_of HT_.out (by kernel_rfl)) (by decide) (fun K hK => ?_)
  refine Kd.R_append_step (Kd.raw 6) (w0 := w) B (by rfl) (.tmp 8) (.tmp 13) 51 54 (.agg #[.int .i64 0, .int .i64 0, .int .u8 0, .int .i64 0, .slice none 0 0, .slice none 0 0]) 80 rfl Tryd.underlying51 info54 rfl (by decide) (by omega) (.slice A xs.length c) xs [.int .i64 2, .int .i64 0, .int .u8 0, .int .i64 cm, .slice Ai 1 ci, .slice none 0 0] [.int .i64 2, .int .i64 0, .int .u8 0, .int .i64 cm, .slice Ai 1 ci, .slice none 0 0] (fun _ => True) (fun _ => False) rfl rfl ?aP (fun _ hk => hk.elim) ?aF ?aO ?aB ?aS ?aL ?_
  (case aP => exact ⟨rfl, rfl, fun u hu => by simp at hu; rcases hu with rfl | rfl | rfl | rfl | rfl | rfl <;> rfl⟩)
  (case aF => exact (fun _ _ => trivial))
  (case aO => exact HR2.out)
  (case aB => exact HBL2.out)
  (case aS => exact HBS2.out)
  (case aL => have := hx; omega)
  intro v1 w1 ho hb1 hg1 hat
  rw [← HY.out] at ho
  obtain ⟨A1, c1, e1⟩ := Kd.R_slice ho
  subst e1
  have HO1 := Aside0.mk ho
  have HB1 := Aside0.mk hb1
  have BK1 := Aside0.mk (blk_grown HG2.out hg1 hne)
  have BP1 := Aside0.mk (blk_grown HP2.out hg1 (hty gb _ _ HP.out (by decide)))
  have FT1 := Aside0.mk (show FarT w w1 from fun k cc t hk h54 h51 => (hg1.block k (blk_lt ((HDW.out k (blk_lt hk)).trans hk)) (fun e => hty k cc t hk h54 e)).trans ((HDW.out k (blk_lt hk)).trans hk))
  clear ho hb1 hg1 hat
  have hc1 : w1.cell? ⟨go, 0, none⟩ = some (.slice A xs.length c) := (blk_cell BK1.out 0).trans rfl
  have hf1 := blk_frozen BK1.out 0
  refine hK.out _ _ ⟨(blk_cell BP1.out 0).trans rfl, hc1⟩ (fun hHeld => ?_)
  clear hK K
  refine norm_ (a' := ?_) ?_ ?_
  rotate_left
  · show Act.put _ (some 14) _ = _
    simp only [Act.put, zA, zZ, zS, i64_w, i32_w]
    rfl
  refine pure_ (i := 10) (N := some 15) (v := ?_) (a' := ?_) (zF 12 2047) rfl rfl (any_of HT_.out (by kernel_rfl)) (fun _ _ _ h => h) (Or.inl ⟨by rfl, ?_⟩) ?_ ?_
  rotate_left; (intro w'; go_simp; with_reducible rfl); rotate_left; (simp only [Act.put, zA, zZ, zS, i64_w, i32_w]; rfl)
  refine last_ (i := 11) (N := none) (zF 12 4095) rfl rfl (one_of HT_.out (by kernel_rfl)) (by decide) (fun K hK => ?_)
  refine skip_ (w1 := ?_) (by rfl) rfl ?_ ?_
  rotate_left
  · go_simp
    with_reducible rfl
  refine hK.out _ _ ?_
  clear hK K
  refine done_ (done_of HT_.out (by kernel_rfl)) ?_
  go_end0
  exact ⟨rfl, ⟨Ai, ci, ⟨_, blk_set BK1.out 0 _, by rw [← HY.out]; exact Kd.R_set HO1.out BK1.out (by decide) 0 _⟩⟩, HB1.out.setCell hB _, fun k cc t hk h54 h51 => (Below.heap_setCell _ ⟨go, 0, none⟩ _ k (fun e => by subst e; rw [HG.out] at hk; simp at hk; exact h51 hk.2.symm)).trans (FT1.out k cc t hk h54 h51)⟩
end Go.Proofs.YtmpmfdghdaofhaaDoor.Ma

namespace Go.Proofs.YtmpmfdghdaofhaaDoor.Ma
set_option linter.unusedVariables false
set_option linter.unusedSimpArgs false
open Go Go.RowKit Go.Proofs.YtmpmfdghdaofhaaDoorW.PrintWords Go.Proofs.YtmpmfdghdaofhaaDoorW.PrintLast Go.Proofs.YtmpmfdghdaofhaaDoorW.PrintMore
theorem info98 : (Tryd.prog.info? 98).map (fun i => (i.zero, i.size, i.bytes)) = some (some (.int .i64 0), 1, 8) := by kernel_rfl
set_option maxHeartbeats 8000000 in
set_option maxRecDepth 100000 in
theorem params_ (w : World) (g gb gp gd : Nat) (dl cmd st p0 : Int) (h : PS w g gb gp gd dl 1 cmd st p0) :
    Calls Tryd.prog 35 #[.pointer (some ⟨g, 0, none⟩)] w fun e w' => ∃ v, e = .returned v ∧ Kd.R (Kd.int .i64) 98 w' w.heap.size (fun _ => True) v [p0] ∧ Below w.heap.size w w' := by
  have h12 : w.cell? ⟨g, 12, none⟩ = some (.int .i64 1) := (h.cell 12).trans rfl
  have H := Aside0.mk h
  clear h
  go_enter Tryd.func35, Tryd.ntmps35
  go_wp2_with (first | ((with_reducible refine gate_dst (N := 9) rfl ?_); refine Kd.R_make (Kd.int .i64) _ 98 rfl (N := 9) rfl 66 _ _ rfl (1 : Int) rfl rfl Tryd.underlying66 (.int .i64 0) 8 info98 rfl (by decide) (by omega) 0 (ok := fun _ => True) (okp := fun _ => True) rfl (fun _ hk => hk) trivial (by omega) (by decide) (Below.refl _ _) (Nat.le_refl _) ?_; intro v1 w1 ho hb hg_ hnew_; clear hg_ hnew_; obtain ⟨gq, cap, e1, hge, hlt, cells, hcs⟩ := Kd.R_form ho (by decide); subst e1; have HO := Aside0.mk (show Kd.R (Kd.int .i64) 98 w1 w.heap.size (fun _ => True) (.slice (some ⟨gq, 0, none⟩) 1 cap) [0] from ho); have HB := Aside0.mk hb; have HGE := Aside0.mk hge; have HCS := Aside0.mk hcs; clear ho hb hge hlt hcs) | fail)
  have fq := blk_frozen HCS.out 0
  have q9 : w1.cell? ⟨g, 9, none⟩ = some (.slice (some ⟨gp, 0, none⟩) 32 32) := ((H.out.far HB.out).cell 9).trans rfl
  have qp : w1.cell? ⟨gp, 0, none⟩ = some (.int .i64 p0) := (H.out.far HB.out).cellp
  have qz : w1.cell? ⟨gq, 0, none⟩ = some (.int .i64 0) := by
    obtain ⟨ad, e_, hx⟩ := Kd.at_int (Kd.R_reads' HO.out).2.2 0 (by decide) (by decide)
    cases e_
    exact hx
  refine wp_loop_rounds 2 ?_
  rw [rounds_succ]
  go_wp2_with fail
  rw [rounds_succ]
  go_wp2
  go_ret
  have hp := (Kd.R_put (enc := Value.int .i64) (h1 := fun _ => rfl) HO.out 0 p0).1
  exact ⟨_, rfl, hp, HB.out.setCell HGE.out _⟩
end Go.Proofs.YtmpmfdghdaofhaaDoor.Ma

namespace Go.Proofs.YtmpmfdghdaofhaaDoor.Ma
set_option linter.unusedVariables false
set_option linter.unusedSimpArgs false
open Go Go.RowKit Go.Proofs.YtmpmfdghdaofhaaDoorW.PrintWords Go.Proofs.YtmpmfdghdaofhaaDoorW.PrintLast Go.Proofs.YtmpmfdghdaofhaaDoorW.PrintMore
def FarU (w w' : World) : Prop := ∀ (k : Nat) (c : Array Value) (t : TypeId), w.heap[k]? = some (.cells c t (0, 0)) → t ≠ 54 → t ≠ 51 → t ≠ 94 → t ≠ 3 → w'.heap[k]? = some (.cells c t (0, 0))
theorem goesV_ {P : Program} {ops : Array Oper} {Q : Exit → Act → World → Prop} {oi : Oper} {N : Option Tmp} {a : Act} {w : World} {K : Act → World → Prop} {f : FuncId} {fn : Func} {c : Operand} {cap : Array Value} {ar : Array Operand} {ts : Array TypeId} (hf : P.funcs[f]? = some fn) (hname : (fn.name == "runtime.NumGoroutine") = false) (hb : fn.body.isSome = true) (args : Array Value)
    (hw : Region.wanted oi (yielded ops a.tmps) = true) (hN : oi.dst = N) (hop : oi.op = .call { callee := .value c, args := ar, argTypes := ts }) (hc : a.eval c = .func (.func f) #[] cap) (hargs : ar.map a.eval ++ cap = args)
    (h : Calls P f args w fun e w' => ∃ v, e = .returned v ∧ K (a.put N v) w') : if Region.wanted oi (yielded ops a.tmps) = true then Oper.wp P oi a w K Q else K (a.put N undef) w := by
  refine call_ f args hw hN ?_ h
  have he := enters_ hf hname hb args w
  unfold execOp
  simp [hop, resolve, Deferred.ofValue, invoke, hc, hargs, he]
theorem Ptr.set {w : World} {gb go g : Nat} {c : Array Value} (h : Ptr w gb go) (hg : w.heap[g]? = some (.cells c 94 (0, 0))) (j : Nat) (v : Value) : Ptr (w.setCell ⟨g, j, none⟩ v) gb go :=
  (Below.heap_setCell w ⟨g, j, none⟩ v gb (fun e => by subst e; unfold Ptr at h; rw [hg] at h; simp at h)).trans h
theorem OutS.set {w : World} {B go g : Nat} {c : Array Value} {xs : List (List Value)} (h : OutS w B go xs) (hg : w.heap[g]? = some (.cells c 94 (0, 0))) (j : Nat) (v : Value) : OutS (w.setCell ⟨g, j, none⟩ v) B go xs := by
  obtain ⟨u, ho, hr⟩ := h
  exact ⟨u, (Below.heap_setCell w ⟨g, j, none⟩ v go (fun e => by subst e; rw [hg] at ho; simp at ho)).trans ho, Kd.R_set hr hg (by decide) j v⟩
def r65T : Bool × List (List Nat × List Nat) := (true, [([], []), ([0], [0]), ([1], [1]), ([2], [2]), ([3], [3]), ([], []), ([5], [5]), ([6], [6]), ([7], [7]), ([], []), ([9], [9]), ([4, 8, 10, 10], [4, 8, 10])])
def r65B : List Nat := [0, 1, 3, 7, 15, 0, 32, 96, 224, 0, 512, 2047]
theorem r65_tab : rtab .any (opsOf Tryd.f68 65) = r65T := by kernel_rfl
theorem r65_bits : waitsOk r65T.2 r65B = true := by kernel_rfl
def r52T : Bool × List (List Nat × List Nat) := (true, [([], []), ([0], [0]), ([1], [1]), ([2], [2]), ([3], [3]), ([4], [4]), ([5], [5]), ([6, 5], [5, 6]), ([7, 5], [5, 7]), ([8, 5], [5, 8]), ([5], [5]), ([10, 5], [5, 10]), ([11, 5], [5, 11]), ([12, 5], [5, 12]), ([13, 5], [5, 13]), ([14, 5], [5, 14]), ([9, 15, 5], [5, 9, 15]), ([5, 16], [5, 16]), ([17, 5], [17]), ([18], [18]), ([19, 18], [18, 19]), ([20, 18], [18, 20]), ([21, 18], [18, 21]), ([22, 18], [18, 22]), ([23, 18, 18], [18, 23]), ([24], [24]), ([25, 24], [24, 25]), ([26, 24], [24, 26]), ([27, 24], [24, 27]), ([28, 24], [24, 28]), ([29, 24], [24, 29]), ([24, 30, 18], [18, 24, 30]), ([31, 24, 18], [18, 31]), ([32], [32]), ([33, 32], [32, 33]), ([34, 32], [32, 34]), ([35, 32], [32, 35]), ([36, 32], [32, 36]), ([37, 32], [32, 37]), ([38, 32], [32, 38]), ([32, 39, 18], [18, 32, 39]), ([18, 40], [18, 40])])
def r52B : List Nat := [0, 1, 3, 7, 15, 31, 63, 127, 255, 511, 63, 1087, 3135, 7231, 15423, 31807, 65535, 131071, 262143, 524287, 1048575, 2097151, 4194303, 8388607, 16777215, 33554431, 67108863, 134217727, 268435455, 536870911, 1073741823, 2147483647, 4294967295, 8589934591, 17179869183, 34359738367, 68719476735, 137438953471, 274877906943, 549755813887, 1099511627775, 2199023255551]
theorem r52_tab : rtab .any (opsOf Tryd.f68 52) = r52T := by kernel_rfl
theorem r52_bits : waitsOk r52T.2 r52B = true := by kernel_rfl
set_option maxHeartbeats 8000000 in
set_option maxRecDepth 100000 in
theorem perf_dispatch (w : World) (B g gb gp gd go : Nat) (xs : List (List Value)) (h : PS w g gb gp gd 0 0 0 3 1) (hg : B ≤ g) (hgp : B ≤ gp) (hbase : B ≤ w.heap.size) (hB : B ≤ go) (hx : xs.length ≤ 1000000) (hptr : Ptr w gb go) (hout : OutS w B go xs) :
    Calls Tryd.prog 68 #[.pointer (some ⟨g, 0, none⟩), .int .u8 4, .int .u8 0, .int .u8 109] w fun e w' => e = .returned (.tuple #[]) ∧ (∃ (Ai : Option Addr) (ci : Nat), OutS w' B go (xs ++ [[.int .i64 2, .int .i64 0, .int .u8 0, .int .i64 109, .slice Ai 1 ci, .slice none 0 0]])) ∧ PS w' g gb gp gd 0 1 109 3 1 ∧ Ptr w' gb go ∧ Below B w w' ∧ FarU w w' := by
  have H0 := Aside0.mk h
  have PT := Aside0.mk hptr
  have OT := Aside0.mk hout
  clear h hptr hout
  have hq : ∀ w_ : World, (binOp .neq 85 (.func (.func 60) #[] #[.pointer (some ⟨gb, 0, none⟩)]) .nilFunc).run Tryd.prog w_ = .ok (.bool true) w_ := fun w_ => by kernel_rfl
  go_enter Tryd.func68, Tryd.ntmps68
  go_wp2_with fail
  refine start_ (n := 42) (S := (fun w' => w'.cell? ⟨g, 9, none⟩ = some (.slice (some ⟨gp, 0, none⟩) 32 32) ∧ w'.cell? ⟨g, 12, none⟩ = some (.int .i64 0) ∧ w'.cell? ⟨gp, 0, none⟩ = some (.int .i64 1))) (ds := []) #[false, false, false, false, false, false, false, false, false, false, false, false, false, false, false, false, false, false, false, false, false, false, false, false, false, false, false, false, false, false, false, false, false, false, false, false, false, false, false, false, false, false] (by kernel_rfl) rfl rfl ⟨(H0.out.cell 9).trans rfl, (H0.out.cell 12).trans rfl, H0.out.cellp⟩ (fun hHeld => ?_)
  refine with_tabW r52_tab r52_bits (fun HT_ HW_ => ?_)
  have H1 := Aside0.mk (show PS w.drew g gb gp gd 0 0 0 3 1 from H0.out)
  have B1 := Aside0.mk (show Below B w w.drew from (Below.refl B w).drew)
  have S1 := Aside0.mk (show B ≤ w.drew.heap.size from hbase)
  have P1 := Aside0.mk (show Ptr w.drew gb go from PT.out)
  have O1 := Aside0.mk (show OutS w.drew B go xs from by (obtain ⟨v, ho, hr⟩ := OT.out; exact ⟨v, ho, Kd.R_drew hr⟩))
  have U1 := Aside0.mk (show FarU w w.drew from fun _ _ _ h _ _ _ _ => h)
  clear H0 PT OT
  generalize w.drew = w1 at H1 B1 S1 P1 O1 U1 hHeld ⊢
  refine pure_ (i := 0) (N := some 326) (v := ?_) (a' := ?_) (zF 42 1) rfl rfl (any_of HT_.out (by kernel_rfl)) (fun _ _ _ h => h) (Or.inl ⟨by rfl, ?_⟩) ?_ ?_
  rotate_left; (intro w'; go_simp; with_reducible rfl); rotate_left; (simp only [Act.put, zA, zZ, zS, i64_w, i32_w]; rfl)
  refine pure_ (i := 1) (N := some 327) (v := ?_) (a' := ?_) (zF 42 3) rfl rfl (any_of HT_.out (by kernel_rfl)) (fun _ _ _ h => h) (Or.inl ⟨by rfl, ?_⟩) ?_ ?_
  rotate_left; (intro w'; go_simp; with_reducible rfl); rotate_left; (simp only [Act.put, zA, zZ, zS, i64_w, i32_w]; rfl)
  refine pure_ (i := 2) (N := some 328) (v := ?_) (a' := ?_) (zF 42 7) rfl rfl (any_of HT_.out (by kernel_rfl)) (fun _ _ _ h => h) (Or.inl ⟨by rfl, ?_⟩) ?_ ?_
  rotate_left; (intro w'; go_simp; with_reducible rfl); rotate_left; (simp only [Act.put, zA, zZ, zS, i64_w, i32_w]; rfl)
  refine take_ (i := 3) (N := some 329) (v := ?_) (a' := ?_) (zF 42 15) rfl rfl (take_ofW HT_.out HW_.out (by kernel_rfl)) (fun _ _ _ h => h) (Or.inl ⟨by rfl, ?_⟩) hHeld ?_ ?_
  rotate_left; (rintro w' ⟨s0, s1, s2⟩; go_simp; with_reducible rfl); rotate_left; (simp only [Act.put, zA, zZ, zS, i64_w, i32_w]; rfl)
  refine pure_ (i := 4) (N := some 330) (v := ?_) (a' := ?_) (zF 42 31) rfl rfl (any_of HT_.out (by kernel_rfl)) (fun _ _ _ h => h) (Or.inl ⟨by rfl, ?_⟩) ?_ ?_
  rotate_left; (intro w'; go_simp; with_reducible rfl); rotate_left; (simp only [Act.put, zA, zZ, zS, i64_w, i32_w]; rfl)
  refine pure_ (i := 5) (N := some 331) (v := ?_) (a' := ?_) (zF 42 63) rfl rfl (any_of HT_.out (by kernel_rfl)) (fun _ _ _ h => h) (Or.inl ⟨by rfl, ?_⟩) ?_ ?_
  rotate_left; (intro w'; go_simp; with_reducible rfl); rotate_left; (simp only [Act.put, zA, zZ, zS, i64_w, i32_w]; rfl)
  refine pure_ (i := 6) (N := some 332) (v := undef) (a' := ?_) (zF 42 127) rfl rfl (any_of HT_.out (by kernel_rfl)) (fun _ _ _ h => h) (Or.inr ⟨by rfl, rfl⟩) ?_ ?_
  rotate_left
  · simp only [Act.put, zA, zZ, zS, i64_w, i32_w]
    rfl
  refine pure_ (i := 7) (N := some 333) (v := undef) (a' := ?_) (zF 42 255) rfl rfl (any_of HT_.out (by kernel_rfl)) (fun _ _ _ h => h) (Or.inr ⟨by rfl, rfl⟩) ?_ ?_
  rotate_left
  · simp only [Act.put, zA, zZ, zS, i64_w, i32_w]
    rfl
  refine pure_ (i := 8) (N := some 334) (v := undef) (a' := ?_) (zF 42 511) rfl rfl (any_of HT_.out (by kernel_rfl)) (fun _ _ _ h => h) (Or.inr ⟨by rfl, rfl⟩) ?_ ?_
  rotate_left
  · simp only [Act.put, zA, zZ, zS, i64_w, i32_w]
    rfl
  refine pure_ (i := 9) (N := some 335) (v := undef) (a' := ?_) (zF 42 1023) rfl rfl (any_of HT_.out (by kernel_rfl)) (fun _ _ _ h => h) (Or.inr ⟨by rfl, rfl⟩) ?_ ?_
  rotate_left
  · simp only [Act.put, zA, zZ, zS, i64_w, i32_w]
    rfl
  refine pure_ (i := 10) (N := some 336) (v := undef) (a' := ?_) (zF 42 2047) rfl rfl (any_of HT_.out (by kernel_rfl)) (fun _ _ _ h => h) (Or.inr ⟨by rfl, rfl⟩) ?_ ?_
  rotate_left
  · simp only [Act.put, zA, zZ, zS, i64_w, i32_w]
    rfl
  refine pure_ (i := 11) (N := some 337) (v := undef) (a' := ?_) (zF 42 4095) rfl rfl (any_of HT_.out (by kernel_rfl)) (fun _ _ _ h => h) (Or.inr ⟨by rfl, rfl⟩) ?_ ?_
  rotate_left
  · simp only [Act.put, zA, zZ, zS, i64_w, i32_w]
    rfl
  refine pure_ (i := 12) (N := some 338) (v := undef) (a' := ?_) (zF 42 8191) rfl rfl (any_of HT_.out (by kernel_rfl)) (fun _ _ _ h => h) (Or.inr ⟨by rfl, rfl⟩) ?_ ?_
  rotate_left
  · simp only [Act.put, zA, zZ, zS, i64_w, i32_w]
    rfl
  refine pure_ (i := 13) (N := some 339) (v := undef) (a' := ?_) (zF 42 16383) rfl rfl (any_of HT_.out (by kernel_rfl)) (fun _ _ _ h => h) (Or.inr ⟨by rfl, rfl⟩) ?_ ?_
  rotate_left
  · simp only [Act.put, zA, zZ, zS, i64_w, i32_w]
    rfl
  refine pure_ (i := 14) (N := some 340) (v := undef) (a' := ?_) (zF 42 32767) rfl rfl (any_of HT_.out (by kernel_rfl)) (fun _ _ _ h => h) (Or.inr ⟨by rfl, rfl⟩) ?_ ?_
  rotate_left
  · simp only [Act.put, zA, zZ, zS, i64_w, i32_w]
    rfl
  refine pure_ (i := 15) (N := some 341) (v := undef) (a' := ?_) (zF 42 65535) rfl rfl (any_of HT_.out (by kernel_rfl)) (fun _ _ _ h => h) (Or.inr ⟨by rfl, rfl⟩) ?_ ?_
  rotate_left
  · simp only [Act.put, zA, zZ, zS, i64_w, i32_w]
    rfl
  refine pure_ (i := 16) (N := some 342) (v := undef) (a' := ?_) (zF 42 131071) rfl rfl (any_of HT_.out (by kernel_rfl)) (fun _ _ _ h => h) (Or.inr ⟨by rfl, rfl⟩) ?_ ?_
  rotate_left
  · simp only [Act.put, zA, zZ, zS, i64_w, i32_w]
    rfl
  refine pure_ (i := 17) (N := some 343) (v := ?_) (a' := ?_) (zF 42 262143) rfl rfl (any_of HT_.out (by kernel_rfl)) (fun _ _ _ h => h) (Or.inl ⟨by rfl, ?_⟩) ?_ ?_
  rotate_left; (intro w'; go_simp; with_reducible rfl); rotate_left; (simp only [Act.put, zA, zZ, zS, i64_w, i32_w]; rfl)
  refine pure_ (i := 18) (N := some 344) (v := ?_) (a' := ?_) (zF 42 524287) rfl rfl (any_of HT_.out (by kernel_rfl)) (fun _ _ _ h => h) (Or.inl ⟨by rfl, ?_⟩) ?_ ?_
  rotate_left; (intro w'; go_simp; with_reducible rfl); rotate_left; (simp only [Act.put, zA, zZ, zS, i64_w, i32_w]; rfl)
  refine pure_ (i := 19) (N := some 345) (v := ?_) (a' := ?_) (zF 42 1048575) rfl rfl (any_of HT_.out (by kernel_rfl)) (fun _ _ _ h => h) (Or.inl ⟨by rfl, ?_⟩) ?_ ?_
  rotate_left; (intro w'; go_simp; with_reducible rfl); rotate_left; (simp only [Act.put, zA, zZ, zS, i64_w, i32_w]; rfl)
  refine pure_ (i := 20) (N := some 346) (v := ?_) (a' := ?_) (zF 42 2097151) rfl rfl (any_of HT_.out (by kernel_rfl)) (fun _ _ _ h => h) (Or.inl ⟨by rfl, ?_⟩) ?_ ?_
  rotate_left; (intro w'; go_simp; with_reducible rfl); rotate_left; (simp only [Act.put, zA, zZ, zS, i64_w, i32_w]; rfl)
  refine pure_ (i := 21) (N := some 347) (v := ?_) (a' := ?_) (zF 42 4194303) rfl rfl (any_of HT_.out (by kernel_rfl)) (fun _ _ _ h => h) (Or.inl ⟨by rfl, ?_⟩) ?_ ?_
  rotate_left; (intro w'; go_simp; with_reducible rfl); rotate_left; (simp only [Act.put, zA, zZ, zS, i64_w, i32_w]; rfl)
  refine take_ (i := 22) (N := some 348) (v := ?_) (a' := ?_) (zF 42 8388607) rfl rfl (take_ofW HT_.out HW_.out (by kernel_rfl)) (fun _ _ _ h => h) (Or.inl ⟨by rfl, ?_⟩) hHeld ?_ ?_
  rotate_left; (rintro w' ⟨s0, s1, s2⟩; go_simp; with_reducible rfl); rotate_left; (simp only [Act.put, zA, zZ, zS, i64_w, i32_w]; rfl)
  refine pure_ (i := 23) (N := some 349) (v := ?_) (a' := ?_) (zF 42 16777215) rfl rfl (any_of HT_.out (by kernel_rfl)) (fun _ _ _ h => h) (Or.inl ⟨by rfl, ?_⟩) ?_ ?_
  rotate_left; (intro w'; go_simp; with_reducible rfl); rotate_left; (simp only [Act.put, zA, zZ, zS, i64_w, i32_w]; rfl)
  refine pure_ (i := 24) (N := some 350) (v := ?_) (a' := ?_) (zF 42 33554431) rfl rfl (any_of HT_.out (by kernel_rfl)) (fun _ _ _ h => h) (Or.inl ⟨by rfl, ?_⟩) ?_ ?_
  rotate_left; (intro w'; go_simp; with_reducible rfl); rotate_left; (simp only [Act.put, zA, zZ, zS, i64_w, i32_w]; rfl)
  refine pure_ (i := 25) (N := some 351) (v := ?_) (a' := ?_) (zF 42 67108863) rfl rfl (any_of HT_.out (by kernel_rfl)) (fun _ _ _ h => h) (Or.inl ⟨by rfl, ?_⟩) ?_ ?_
  rotate_left; (intro w'; go_simp; with_reducible rfl); rotate_left; (simp only [Act.put, zA, zZ, zS, i64_w, i32_w]; rfl)
  refine pure_ (i := 26) (N := some 352) (v := ?_) (a' := ?_) (zF 42 134217727) rfl rfl (any_of HT_.out (by kernel_rfl)) (fun _ _ _ h => h) (Or.inl ⟨by rfl, ?_⟩) ?_ ?_
  rotate_left; (intro w'; go_simp; with_reducible rfl); rotate_left; (simp only [Act.put, zA, zZ, zS, i64_w, i32_w]; rfl)
  refine pure_ (i := 27) (N := some 353) (v := ?_) (a' := ?_) (zF 42 268435455) rfl rfl (any_of HT_.out (by kernel_rfl)) (fun _ _ _ h => h) (Or.inl ⟨by rfl, ?_⟩) ?_ ?_
  rotate_left; (intro w'; go_simp; with_reducible rfl); rotate_left; (simp only [Act.put, zA, zZ, zS, i64_w, i32_w]; rfl)
  refine take_ (i := 28) (N := some 354) (v := ?_) (a' := ?_) (zF 42 536870911) rfl rfl (take_ofW HT_.out HW_.out (by kernel_rfl)) (fun _ _ _ h => h) (Or.inl ⟨by rfl, ?_⟩) hHeld ?_ ?_
  rotate_left; (rintro w' ⟨s0, s1, s2⟩; go_simp; with_reducible rfl); rotate_left; (simp only [Act.put, zA, zZ, zS, i64_w, i32_w]; rfl)
  refine pure_ (i := 29) (N := some 355) (v := ?_) (a' := ?_) (zF 42 1073741823) rfl rfl (any_of HT_.out (by kernel_rfl)) (fun _ _ _ h => h) (Or.inl ⟨by rfl, ?_⟩) ?_ ?_
  rotate_left; (intro w'; go_simp; with_reducible rfl); rotate_left; (simp only [Act.put, zA, zZ, zS, i64_w, i32_w]; rfl)
  refine pure_ (i := 30) (N := some 356) (v := ?_) (a' := ?_) (zF 42 2147483647) rfl rfl (any_of HT_.out (by kernel_rfl)) (fun _ _ _ h => h) (Or.inl ⟨by rfl, ?_⟩) ?_ ?_
  rotate_left; (intro w'; go_simp; with_reducible rfl); rotate_left; (simp only [Act.put, zA, zZ, zS, i64_w, i32_w]; rfl)
  refine pure_ (i := 31) (N := some 357) (v := ?_) (a' := ?_) (zF 42 4294967295) rfl rfl (any_of HT_.out (by kernel_rfl)) (fun _ _ _ h => h) (Or.inl ⟨by rfl, ?_⟩) ?_ ?_
  rotate_left; (intro w'; go_simp; with_reducible rfl); rotate_left; (simp only [Act.put, zA, zZ, zS, i64_w, i32_w]; rfl)
  refine pure_ (i := 32) (N := some 358) (v := ?_) (a' := ?_) (zF 42 8589934591) rfl rfl (any_of HT_.out (by kernel_rfl)) (fun _ _ _ h => h) (Or.inl ⟨by rfl, ?_⟩) ?_ ?_
  rotate_left; (intro w'; go_simp; with_reducible rfl); rotate_left; (simp only [Act.put, zA, zZ, zS, i64_w, i32_w]; rfl)
  refine pure_ (i := 33) (N := some 359) (v := ?_) (a' := ?_) (zF 42 17179869183) rfl rfl (any_of HT_.out (by kernel_rfl)) (fun _ _ _ h => h) (Or.inl ⟨by rfl, ?_⟩) ?_ ?_
  rotate_left; (intro w'; go_simp; with_reducible rfl); rotate_left; (simp only [Act.put, zA, zZ, zS, i64_w, i32_w]; rfl)
  refine pure_ (i := 34) (N := some 360) (v := ?_) (a' := ?_) (zF 42 34359738367) rfl rfl (any_of HT_.out (by kernel_rfl)) (fun _ _ _ h => h) (Or.inl ⟨by rfl, ?_⟩) ?_ ?_
  rotate_left; (intro w'; go_simp; with_reducible rfl); rotate_left; (simp only [Act.put, zA, zZ, zS, i64_w, i32_w]; rfl)
  refine pure_ (i := 35) (N := some 361) (v := ?_) (a' := ?_) (zF 42 68719476735) rfl rfl (any_of HT_.out (by kernel_rfl)) (fun _ _ _ h => h) (Or.inl ⟨by rfl, ?_⟩) ?_ ?_
  rotate_left; (intro w'; go_simp; with_reducible rfl); rotate_left; (simp only [Act.put, zA, zZ, zS, i64_w, i32_w]; rfl)
  refine take_ (i := 36) (N := some 362) (v := ?_) (a' := ?_) (zF 42 137438953471) rfl rfl (take_ofW HT_.out HW_.out (by kernel_rfl)) (fun _ _ _ h => h) (Or.inl ⟨by rfl, ?_⟩) hHeld ?_ ?_
  rotate_left; (rintro w' ⟨s0, s1, s2⟩; go_simp; with_reducible rfl); rotate_left; (simp only [Act.put, zA, zZ, zS, i64_w, i32_w]; rfl)
  refine pure_ (i := 37) (N := some 363) (v := ?_) (a' := ?_) (zF 42 274877906943) rfl rfl (any_of HT_.out (by kernel_rfl)) (fun _ _ _ h => h) (Or.inl ⟨by rfl, ?_⟩) ?_ ?_
  rotate_left; (intro w'; go_simp; with_reducible rfl); rotate_left; (simp only [Act.put, zA, zZ, zS, i64_w, i32_w]; rfl)
  refine take_ (i := 38) (N := some 364) (v := ?_) (a' := ?_) (zF 42 549755813887) rfl rfl (take_ofW HT_.out HW_.out (by kernel_rfl)) (fun _ _ _ h => h) (Or.inl ⟨by rfl, ?_⟩) hHeld ?_ ?_
  rotate_left; (rintro w' ⟨s0, s1, s2⟩; go_simp; with_reducible rfl); rotate_left; (simp only [Act.put, zA, zZ, zS, i64_w, i32_w]; rfl)
  refine pure_ (i := 39) (N := some 365) (v := ?_) (a' := ?_) (zF 42 1099511627775) rfl rfl (any_of HT_.out (by kernel_rfl)) (fun _ _ _ h => h) (Or.inl ⟨by rfl, ?_⟩) ?_ ?_
  rotate_left; (intro w'; go_simp; with_reducible rfl); rotate_left; (simp only [Act.put, zA, zZ, zS, i64_w, i32_w]; rfl)
  refine pure_ (i := 40) (N := some 366) (v := ?_) (a' := ?_) (zF 42 2199023255551) rfl rfl (any_of HT_.out (by kernel_rfl)) (fun _ _ _ h => h) (Or.inl ⟨by rfl, ?_⟩) ?_ ?_
  rotate_left; (intro w'; go_simp; with_reducible rfl); rotate_left; (simp only [Act.put, zA, zZ, zS, i64_w, i32_w]; rfl)
  refine pure_ (i := 41) (N := some 367) (v := ?_) (a' := ?_) (zF 42 4398046511103) rfl rfl (any_of HT_.out (by kernel_rfl)) (fun _ _ _ h => h) (Or.inl ⟨by rfl, ?_⟩) ?_ ?_
  rotate_left; (intro w'; go_simp; with_reducible rfl); rotate_left; (simp only [Act.put, zA, zZ, zS, i64_w, i32_w]; rfl)
  refine done_ (done_of HT_.out (by kernel_rfl)) ?_
  clear hHeld
  have c12 : w1.cell? ⟨g, 12, none⟩ = some (.int .i64 0) := (H1.out.cell 12).trans rfl
  have f12 := H1.out.free 12
  have H2 := H1.out.set_pl 1
  have c14 : (w1.setCell ⟨g, 12, none⟩ (.int .i64 1)).cell? ⟨g, 14, none⟩ = some (.int .u8 3) := (H2.cell 14).trans rfl
  have c10 : (w1.setCell ⟨g, 12, none⟩ (.int .i64 1)).cell? ⟨g, 10, none⟩ = some (.slice (some ⟨gd, 0, none⟩) 1024 1024) := (H2.cell 10).trans rfl
  have c11 : (w1.setCell ⟨g, 12, none⟩ (.int .i64 1)).cell? ⟨g, 11, none⟩ = some (.int .i64 0) := (H2.cell 11).trans rfl
  have c13 : (w1.setCell ⟨g, 12, none⟩ (.int .i64 1)).cell? ⟨g, 13, none⟩ = some (.int .i64 0) := (H2.cell 13).trans rfl
  have f13 := H2.free 13
  have H3 := H2.set_cmd (Go.bits .or .i64 0 109)
  have c2 : ((w1.setCell ⟨g, 12, none⟩ (.int .i64 1)).setCell ⟨g, 13, none⟩ (.int .i64 (Go.bits .or .i64 0 109))).cell? ⟨g, 2, none⟩ = some (.func (.func 60) #[] #[.pointer (some ⟨gb, 0, none⟩)]) := (H3.cell 2).trans rfl
  have H3 := Aside0.mk H3
  clear H2
  go_wp2_with fail
  refine start_ (n := 12) (S := (fun w' => w'.cell? ⟨g, 2, none⟩ = some (.func (.func 60) #[] #[.pointer (some ⟨gb, 0, none⟩)]) ∧ w'.cell? ⟨g, 13, none⟩ = some (.int .i64 (Go.bits .or .i64 0 109)))) (ds := [11]) #[false, false, false, false, false, false, false, false, false, false, false, false] (by kernel_rfl) rfl rfl ⟨c2, (H3.out.cell 13).trans rfl⟩ (fun hHeld => ?_)
  refine with_tabW r65_tab r65_bits (fun HT_ HW_ => ?_)
  have H4 := Aside0.mk (show PS ((w1.setCell ⟨g, 12, none⟩ (.int .i64 1)).setCell ⟨g, 13, none⟩ (.int .i64 (Go.bits .or .i64 0 109))).drew g gb gp gd 0 1 (Go.bits .or .i64 0 109) 3 1 from H3.out)
  have P4 := Aside0.mk (show Ptr ((w1.setCell ⟨g, 12, none⟩ (.int .i64 1)).setCell ⟨g, 13, none⟩ (.int .i64 (Go.bits .or .i64 0 109))).drew gb go from (P1.out.set H1.out.1 12 _).set (H1.out.set_pl 1).1 13 _)
  have O4 := Aside0.mk (show OutS ((w1.setCell ⟨g, 12, none⟩ (.int .i64 1)).setCell ⟨g, 13, none⟩ (.int .i64 (Go.bits .or .i64 0 109))).drew B go xs from by (have h_ := (O1.out.set H1.out.1 12 (.int .i64 1)).set (H1.out.set_pl 1).1 13 (.int .i64 (Go.bits .or .i64 0 109)); obtain ⟨v, ho, hr⟩ := h_; exact ⟨v, ho, Kd.R_drew hr⟩))
  have B4 := Aside0.mk (show Below B w ((w1.setCell ⟨g, 12, none⟩ (.int .i64 1)).setCell ⟨g, 13, none⟩ (.int .i64 (Go.bits .or .i64 0 109))).drew from ((B1.out.setCell hg _).setCell hg _).drew)
  have S4 := Aside0.mk (show B ≤ ((w1.setCell ⟨g, 12, none⟩ (.int .i64 1)).setCell ⟨g, 13, none⟩ (.int .i64 (Go.bits .or .i64 0 109))).drew.heap.size by have := S1.out; simpa [World.setCell, World.drew] using this)
  have U4 := Aside0.mk (show FarU w ((w1.setCell ⟨g, 12, none⟩ (.int .i64 1)).setCell ⟨g, 13, none⟩ (.int .i64 (Go.bits .or .i64 0 109))).drew from by (intro k cc t hk a b c d; have hu := U1.out k cc t hk a b c d; have hne : k ≠ g := (fun e => by (subst e; rw [H1.out.1] at hu; simp at hu; exact c hu.2.symm)); exact (Below.heap_setCell _ ⟨g, 13, none⟩ _ k hne).trans ((Below.heap_setCell _ ⟨g, 12, none⟩ _ k hne).trans hu)))
  clear c12 f12 c14 c10 c11 c13 f13 c2 H3 P1 O1 B1 S1 U1 H1
  generalize ((w1.setCell ⟨g, 12, none⟩ (.int .i64 1)).setCell ⟨g, 13, none⟩ (.int .i64 (Go.bits .or .i64 0 109))).drew = w3 at H4 P4 O4 B4 S4 U4 hHeld ⊢
  refine pure_ (i := 0) (N := some 427) (v := ?_) (a' := ?_) (zF 12 1) rfl rfl (any_of HT_.out (by kernel_rfl)) (fun _ _ _ h => h) (Or.inl ⟨by rfl, ?_⟩) ?_ ?_
  rotate_left; (intro w'; go_simp; with_reducible rfl); rotate_left; (simp only [Act.put, zA, zZ, zS, i64_w, i32_w]; rfl)
  refine pure_ (i := 1) (N := some 428) (v := ?_) (a' := ?_) (zF 12 3) rfl rfl (any_of HT_.out (by kernel_rfl)) (fun _ _ _ h => h) (Or.inl ⟨by rfl, ?_⟩) ?_ ?_
  rotate_left; (intro w'; go_simp; with_reducible rfl); rotate_left; (simp only [Act.put, zA, zZ, zS, i64_w, i32_w]; rfl)
  refine pure_ (i := 2) (N := some 429) (v := ?_) (a' := ?_) (zF 12 7) rfl rfl (any_of HT_.out (by kernel_rfl)) (fun _ _ _ h => h) (Or.inl ⟨by rfl, ?_⟩) ?_ ?_
  rotate_left; (intro w'; go_simp; with_reducible rfl); rotate_left; (simp only [Act.put, zA, zZ, zS, i64_w, i32_w]; rfl)
  refine pure_ (i := 3) (N := some 430) (v := ?_) (a' := ?_) (zF 12 15) rfl rfl (any_of HT_.out (by kernel_rfl)) (fun _ _ _ h => h) (Or.inl ⟨by rfl, ?_⟩) ?_ ?_
  rotate_left; (intro w'; go_simp; with_reducible rfl); rotate_left; (simp only [Act.put, zA, zZ, zS, i64_w, i32_w]; rfl)
  refine pure_ (i := 5) (N := some 432) (v := ?_) (a' := ?_) (zF 12 47) rfl rfl (any_of HT_.out (by kernel_rfl)) (fun _ _ _ h => h) (Or.inl ⟨by rfl, ?_⟩) ?_ ?_
  rotate_left; (intro w'; go_simp; with_reducible rfl); rotate_left; (simp only [Act.put, zA, zZ, zS, i64_w, i32_w]; rfl)
  refine pure_ (i := 6) (N := some 433) (v := ?_) (a' := ?_) (zF 12 111) rfl rfl (any_of HT_.out (by kernel_rfl)) (fun _ _ _ h => h) (Or.inl ⟨by rfl, ?_⟩) ?_ ?_
  rotate_left; (intro w'; go_simp; with_reducible rfl); rotate_left; (simp only [Act.put, zA, zZ, zS, i64_w, i32_w]; rfl)
  refine pure_ (i := 7) (N := some 434) (v := ?_) (a' := ?_) (zF 12 239) rfl rfl (any_of HT_.out (by kernel_rfl)) (fun _ _ _ h => h) (Or.inl ⟨by rfl, ?_⟩) ?_ ?_
  rotate_left; (intro w'; go_simp; with_reducible rfl); rotate_left; (simp only [Act.put, zA, zZ, zS, i64_w, i32_w]; rfl)
  refine pure_ (i := 9) (N := some 436) (v := ?_) (a' := ?_) (zF 12 751) rfl rfl (any_of HT_.out (by kernel_rfl)) (fun _ _ _ h => h) (Or.inl ⟨by rfl, ?_⟩) ?_ ?_
  rotate_left; (intro w'; go_simp; with_reducible rfl); rotate_left; (simp only [Act.put, zA, zZ, zS, i64_w, i32_w]; rfl)
  refine take_ (i := 4) (N := some 431) (v := ?_) (a' := ?_) (zF 12 767) rfl rfl (take_ofW HT_.out HW_.out (by kernel_rfl)) (fun _ _ _ h => h) (Or.inl ⟨by rfl, ?_⟩) hHeld ?_ ?_
  rotate_left; (rintro w' ⟨s0, s1⟩; go_simp; with_reducible rfl); rotate_left; (simp only [Act.put, zA, zZ, zS, i64_w, i32_w]; rfl)
  refine take_ (i := 8) (N := some 435) (v := ?_) (a' := ?_) (zF 12 1023) rfl rfl (take_ofW HT_.out HW_.out (by kernel_rfl)) (fun _ _ _ h => h) (Or.inl ⟨by rfl, ?_⟩) hHeld ?_ ?_
  rotate_left; (rintro w' ⟨s0, s1⟩; go_simp; with_reducible rfl); rotate_left; (simp only [Act.put, zA, zZ, zS, i64_w, i32_w]; rfl)
  refine one_ (i := 10) (N := some 437) (zF 12 2047) rfl rfl (one_of HT_.out (by kernel_rfl)) (by decide) (fun K hK => ?_)
  refine goes_ Tryd.func35 (by kernel_rfl) rfl #[.pointer (some ⟨g, 0, none⟩)] (by rfl) rfl rfl (by (try simp only [List.map_toArray, List.map_cons, List.map_nil]); first | done | rfl | (simp [Act.eval, *]; done)) ?_
  refine (params_ _ g gb gp gd 0 (Go.bits .or .i64 0 109) 3 1 H4.out).mono ?_
  rintro e wp ⟨vp, rfl, hrp, hbp⟩
  obtain ⟨Ap, cp, rfl⟩ := Kd.R_slice hrp
  refine ⟨_, rfl, ?_⟩
  have HQ := Aside0.mk (show Kd.R (Kd.int .i64) 98 wp w3.heap.size (fun _ => True) (.slice Ap 1 cp) [1] from hrp)
  have H5 := Aside0.mk (H4.out.far hbp)
  have P5 := Aside0.mk (show Ptr wp gb go from (hbp.block gb (blk_lt P4.out)).trans P4.out)
  have O5 := Aside0.mk (show OutS wp B go xs from by (obtain ⟨v, ho, hr⟩ := O4.out; exact ⟨v, (hbp.block go (blk_lt ho)).trans ho, Kd.R_below hr hbp⟩))
  have B5 := Aside0.mk (B4.out.trans (hbp.mono S4.out))
  have S5 := Aside0.mk (Nat.le_trans S4.out hbp.size)
  have U5 := Aside0.mk (show FarU w wp from fun k cc t hk a b c d => (hbp.block k (blk_lt (U4.out k cc t hk a b c d))).trans (U4.out k cc t hk a b c d))
  clear hrp hbp
  refine hK.out _ _ ⟨(H5.out.cell 2).trans rfl, (H5.out.cell 13).trans rfl⟩ (fun hHeld => ?_)
  clear hK K
  refine norm_ (a' := ?_) ?_ ?_
  rotate_left
  · show Act.put _ (some 437) _ = _
    simp only [Act.put, zA, zZ, zS, i64_w, i32_w]
    rfl
  refine last_ (i := 11) (N := some 438) (zF 12 4095) rfl rfl (one_of HT_.out (by kernel_rfl)) (by decide) (fun K hK => ?_)
  refine goesV_ Tryd.func60 (by kernel_rfl) rfl #[.int .i64 (Go.bits .or .i64 0 109), .slice Ap 1 cp, .pointer (some ⟨gb, 0, none⟩)] (by rfl) rfl rfl (by rfl) (by first | rfl | (simp [Act.eval, *]; done)) ?_
  refine (csi_ wp B gb go xs (Go.bits .or .i64 0 109) 1 Ap cp w3.heap.size hB hx S5.out P5.out O5.out HQ.out).mono ?_
  rintro e wz ⟨rfl, ho6, hb6, hf6⟩
  refine ⟨_, rfl, ?_⟩
  refine hK.out _ _ ?_
  clear hK K
  refine norm_ (a' := ?_) ?_ ?_
  rotate_left
  · show Act.put _ (some 438) _ = _
    simp only [Act.put, zA, zZ, zS, i64_w, i32_w]
    rfl
  refine done_ (done_of HT_.out (by kernel_rfl)) ?_
  go_wp2
  go_end0
  obtain ⟨h1, ps, hs, hp, h2⟩ := H5.out
  rw [show (Go.bits .or .i64 0 109 : Int) = 109 by decide +kernel] at ho6 h1
  exact ⟨rfl, ho6, ⟨hf6 _ _ _ h1 (by decide) (by decide), ps, hs, hp, hf6 _ _ _ h2 (by decide) (by decide)⟩, hf6 _ _ _ P5.out (by decide) (by decide), B5.out.trans hb6, fun k cc t hk a b c d => hf6 k cc t (U5.out k cc t hk a b c d) a b⟩
end Go.Proofs.YtmpmfdghdaofhaaDoor.Ma

namespace Go.Proofs.YtmpmfdghdaofhaaDoor.Ma
set_option linter.unusedVariables false
set_option linter.unusedSimpArgs false
open Go Go.RowKit Go.Proofs.YtmpmfdghdaofhaaDoorW.PrintWords Go.Proofs.YtmpmfdghdaofhaaDoorW.PrintLast Go.Proofs.YtmpmfdghdaofhaaDoorW.PrintMore
def r22T : Bool × List (List Nat × List Nat) := (true, [([], []), ([0], [0]), ([1], [1]), ([2], [2]), ([], []), ([4], [4]), ([5], [5]), ([6], [6]), ([7], [7]), ([3, 8], [3, 8])])
def r22B : List Nat := [0, 1, 3, 7, 0, 16, 48, 112, 240, 511]
theorem r22_tab : rtab .any (opsOf Tryd.f68 22) = r22T := by kernel_rfl
theorem r22_bits : waitsOk r22T.2 r22B = true := by kernel_rfl
def r24T : Bool × List (List Nat × List Nat) := (true, [([], []), ([0], [0]), ([1], [1]), ([2], [2]), ([], []), ([4], [4]), ([5], [5]), ([6], [6]), ([3, 7], [3, 7]), ([8], [8]), ([9], [9])])
def r24B : List Nat := [0, 1, 3, 7, 0, 16, 48, 112, 255, 511, 1023]
theorem r24_tab : rtab .any (opsOf Tryd.f68 24) = r24T := by kernel_rfl
theorem r24_bits : waitsOk r24T.2 r24B = true := by kernel_rfl
def r25T : Bool × List (List Nat × List Nat) := (true, [([], []), ([0], [0]), ([1], [1]), ([2], [2]), ([], []), ([4], [4]), ([5], [5]), ([6], [6]), ([3, 7, 0, 1, 2, 3, 4, 5, 6, 7], [3, 7]), ([8, 0, 1, 2, 3, 4, 5, 6, 7], [8])])
def r25B : List Nat := [0, 1, 3, 7, 0, 16, 48, 112, 255, 511]
theorem r25_tab : rtab .any (opsOf Tryd.f68 25) = r25T := by kernel_rfl
theorem r25_bits : waitsOk r25T.2 r25B = true := by kernel_rfl
def r26T : Bool × List (List Nat × List Nat) := (true, [([], []), ([0], [0]), ([1], [1]), ([2], [2]), ([], []), ([4], [4]), ([5], [5]), ([6], [6]), ([3, 7], [3, 7]), ([8], [8]), ([9], [9]), ([3, 7, 0, 1, 2, 3, 4, 5, 6, 7, 8, 9, 10], [3, 7]), ([11, 10, 0, 1, 2, 3, 4, 5, 6, 7, 8, 9, 10], [10, 11])])
def r26B : List Nat := [0, 1, 3, 7, 0, 16, 48, 112, 255, 511, 1023, 2047, 4095]
theorem r26_tab : rtab .any (opsOf Tryd.f68 26) = r26T := by kernel_rfl
theorem r26_bits : waitsOk r26T.2 r26B = true := by kernel_rfl
def r27T : Bool × List (List Nat × List Nat) := (true, [([], []), ([0], [0]), ([1], [1]), ([2], [2]), ([], []), ([4], [4]), ([5], [5]), ([6], [6]), ([3, 7], [3, 7]), ([8], [8]), ([], []), ([10], [10]), ([11], [11]), ([9, 12], [9, 12]), ([3, 7, 0, 1, 2, 3, 4, 5, 6, 7, 8, 9, 10, 11, 12, 13], [3, 7]), ([14, 13, 0, 1, 2, 3, 4, 5, 6, 7, 8, 9, 10, 11, 12, 13], [13, 14])])
def r27B : List Nat := [0, 1, 3, 7, 0, 16, 48, 112, 255, 511, 0, 1024, 3072, 8191, 16383, 32767]
theorem r27_tab : rtab .any (opsOf Tryd.f68 27) = r27T := by kernel_rfl
theorem r27_bits : waitsOk r27T.2 r27B = true := by kernel_rfl
set_option maxHeartbeats 8000000 in
set_option maxRecDepth 100000 in
theorem perf_param (w : World) (B g gb gp gd : Nat) (dl cmd : Int) (h : PS w g gb gp gd dl 0 cmd 1 2147483647) (hg : B ≤ g) (hgp : B ≤ gp) :
    Calls Tryd.prog 68 #[.pointer (some ⟨g, 0, none⟩), .int .u8 8, .int .u8 3, .int .u8 49] w fun e w' => e = .returned (.tuple #[]) ∧ PS w' g gb gp gd dl 0 cmd 1 1 ∧ Below B w w' ∧ Far w w' g gp := by
  obtain ⟨w0, hw0⟩ : ∃ w0, w0 = w := ⟨_, rfl⟩
  have H0 := Aside0.mk (show PS w0 g gb gp gd dl 0 cmd 1 2147483647 by rw [hw0]; exact h)
  have B0 := Aside0.mk (show Below B w w0 by rw [hw0]; exact Below.refl _ _)
  have F0 := Aside0.mk (show Far w w0 g gp by rw [hw0]; exact Far.refl _ _ _)
  clear h
  suffices hh : Calls Tryd.prog 68 #[.pointer (some ⟨g, 0, none⟩), .int .u8 8, .int .u8 3, .int .u8 49] w0 fun e w' => e = .returned (.tuple #[]) ∧ PS w' g gb gp gd dl 0 cmd 1 1 ∧ Below B w w' ∧ Far w w' g gp by rw [hw0] at hh; exact hh
  clear hw0
  go_enter Tryd.func68, Tryd.ntmps68
  go_wp2_with fail
  refine start_ (n := 10) (S := (fun w' => w'.cell? ⟨g, 9, none⟩ = some (.slice (some ⟨gp, 0, none⟩) 32 32) ∧ w'.cell? ⟨g, 12, none⟩ = some (.int .i64 0) ∧ w'.cell? ⟨gp, 0, none⟩ = some (.int .i64 2147483647))) (ds := []) #[false, false, false, false, false, false, false, false, false, false] (by kernel_rfl) rfl rfl ⟨(H0.out.cell 9).trans rfl, (H0.out.cell 12).trans rfl, H0.out.cellp⟩ (fun hHeld => ?_)
  refine with_tabW r22_tab r22_bits (fun HT_ HW_ => ?_)
  have H1d := Aside0.mk (show PS w0.drew g gb gp gd dl 0 cmd 1 2147483647 from H0.out)
  have B1d := Aside0.mk (show Below B w w0.drew from B0.out.drew)
  have F1d := Aside0.mk (show Far w w0.drew g gp from F0.out)
  clear H0 B0 F0
  generalize w0.drew = w1d at H1d B1d F1d hHeld ⊢
  refine pure_ (i := 0) (N := some 105) (v := ?_) (a' := ?_) (zF 10 1) rfl rfl (any_of HT_.out (by kernel_rfl)) (fun _ _ _ h => h) (Or.inl ⟨by rfl, ?_⟩) ?_ ?_
  rotate_left; (intro w'; go_simp; with_reducible rfl); rotate_left; (simp only [Act.put, zA, zZ, zS, i64_w, i32_w]; rfl)
  refine pure_ (i := 1) (N := some 106) (v := ?_) (a' := ?_) (zF 10 3) rfl rfl (any_of HT_.out (by kernel_rfl)) (fun _ _ _ h => h) (Or.inl ⟨by rfl, ?_⟩) ?_ ?_
  rotate_left; (intro w'; go_simp; with_reducible rfl); rotate_left; (simp only [Act.put, zA, zZ, zS, i64_w, i32_w]; rfl)
  refine pure_ (i := 2) (N := some 107) (v := ?_) (a' := ?_) (zF 10 7) rfl rfl (any_of HT_.out (by kernel_rfl)) (fun _ _ _ h => h) (Or.inl ⟨by rfl, ?_⟩) ?_ ?_
  rotate_left; (intro w'; go_simp; with_reducible rfl); rotate_left; (simp only [Act.put, zA, zZ, zS, i64_w, i32_w]; rfl)
  refine pure_ (i := 4) (N := some 109) (v := ?_) (a' := ?_) (zF 10 23) rfl rfl (any_of HT_.out (by kernel_rfl)) (fun _ _ _ h => h) (Or.inl ⟨by rfl, ?_⟩) ?_ ?_
  rotate_left; (intro w'; go_simp; with_reducible rfl); rotate_left; (simp only [Act.put, zA, zZ, zS, i64_w, i32_w]; rfl)
  refine pure_ (i := 5) (N := some 110) (v := ?_) (a' := ?_) (zF 10 55) rfl rfl (any_of HT_.out (by kernel_rfl)) (fun _ _ _ h => h) (Or.inl ⟨by rfl, ?_⟩) ?_ ?_
  rotate_left; (intro w'; go_simp; with_reducible rfl); rotate_left; (simp only [Act.put, zA, zZ, zS, i64_w, i32_w]; rfl)
  refine pure_ (i := 6) (N := some 111) (v := ?_) (a' := ?_) (zF 10 119) rfl rfl (any_of HT_.out (by kernel_rfl)) (fun _ _ _ h => h) (Or.inl ⟨by rfl, ?_⟩) ?_ ?_
  rotate_left; (intro w'; go_simp; with_reducible rfl); rotate_left; (simp only [Act.put, zA, zZ, zS, i64_w, i32_w]; rfl)
  refine take_ (i := 3) (N := some 108) (v := ?_) (a' := ?_) (zF 10 127) rfl rfl (take_ofW HT_.out HW_.out (by kernel_rfl)) (fun _ _ _ h => h) (Or.inl ⟨by rfl, ?_⟩) hHeld ?_ ?_
  rotate_left; (rintro w' ⟨s0, s1, s2⟩; go_simp; with_reducible rfl); rotate_left; (simp only [Act.put, zA, zZ, zS, i64_w, i32_w]; rfl)
  refine take_ (i := 7) (N := some 112) (v := ?_) (a' := ?_) (zF 10 255) rfl rfl (take_ofW HT_.out HW_.out (by kernel_rfl)) (fun _ _ _ h => h) (Or.inl ⟨by rfl, ?_⟩) hHeld ?_ ?_
  rotate_left; (rintro w' ⟨s0, s1, s2⟩; go_simp; with_reducible rfl); rotate_left; (simp only [Act.put, zA, zZ, zS, i64_w, i32_w]; rfl)
  refine pure_ (i := 8) (N := some 113) (v := ?_) (a' := ?_) (zF 10 511) rfl rfl (any_of HT_.out (by kernel_rfl)) (fun _ _ _ h => h) (Or.inl ⟨by rfl, ?_⟩) ?_ ?_
  rotate_left; (intro w'; go_simp; with_reducible rfl); rotate_left; (simp only [Act.put, zA, zZ, zS, i64_w, i32_w]; rfl)
  refine pure_ (i := 9) (N := some 114) (v := ?_) (a' := ?_) (zF 10 1023) rfl rfl (any_of HT_.out (by kernel_rfl)) (fun _ _ _ h => h) (Or.inl ⟨by rfl, ?_⟩) ?_ ?_
  rotate_left; (intro w'; go_simp; with_reducible rfl); rotate_left; (simp only [Act.put, zA, zZ, zS, i64_w, i32_w]; rfl)
  refine done_ (done_of HT_.out (by kernel_rfl)) ?_
  clear hHeld
  go_wp2_with fail
  refine start_ (n := 11) (S := (fun w' => w'.cell? ⟨g, 9, none⟩ = some (.slice (some ⟨gp, 0, none⟩) 32 32) ∧ w'.cell? ⟨g, 12, none⟩ = some (.int .i64 0) ∧ w'.cell? ⟨gp, 0, none⟩ = some (.int .i64 2147483647))) (ds := []) #[false, false, false, false, false, false, false, false, false, false, false] (by kernel_rfl) rfl rfl ⟨(H1d.out.cell 9).trans rfl, (H1d.out.cell 12).trans rfl, H1d.out.cellp⟩ (fun hHeld => ?_)
  refine with_tabW r24_tab r24_bits (fun HT_ HW_ => ?_)
  have H2d := Aside0.mk (show PS w1d.drew g gb gp gd dl 0 cmd 1 2147483647 from H1d.out)
  have B2d := Aside0.mk (show Below B w w1d.drew from B1d.out.drew)
  have F2d := Aside0.mk (show Far w w1d.drew g gp from F1d.out)
  clear H1d B1d F1d
  generalize w1d.drew = w2d at H2d B2d F2d hHeld ⊢
  refine pure_ (i := 0) (N := some 121) (v := ?_) (a' := ?_) (zF 11 1) rfl rfl (any_of HT_.out (by kernel_rfl)) (fun _ _ _ h => h) (Or.inl ⟨by rfl, ?_⟩) ?_ ?_
  rotate_left; (intro w'; go_simp; with_reducible rfl); rotate_left; (simp only [Act.put, zA, zZ, zS, i64_w, i32_w]; rfl)
  refine pure_ (i := 1) (N := some 122) (v := ?_) (a' := ?_) (zF 11 3) rfl rfl (any_of HT_.out (by kernel_rfl)) (fun _ _ _ h => h) (Or.inl ⟨by rfl, ?_⟩) ?_ ?_
  rotate_left; (intro w'; go_simp; with_reducible rfl); rotate_left; (simp only [Act.put, zA, zZ, zS, i64_w, i32_w]; rfl)
  refine pure_ (i := 2) (N := some 123) (v := ?_) (a' := ?_) (zF 11 7) rfl rfl (any_of HT_.out (by kernel_rfl)) (fun _ _ _ h => h) (Or.inl ⟨by rfl, ?_⟩) ?_ ?_
  rotate_left; (intro w'; go_simp; with_reducible rfl); rotate_left; (simp only [Act.put, zA, zZ, zS, i64_w, i32_w]; rfl)
  refine pure_ (i := 4) (N := some 125) (v := ?_) (a' := ?_) (zF 11 23) rfl rfl (any_of HT_.out (by kernel_rfl)) (fun _ _ _ h => h) (Or.inl ⟨by rfl, ?_⟩) ?_ ?_
  rotate_left; (intro w'; go_simp; with_reducible rfl); rotate_left; (simp only [Act.put, zA, zZ, zS, i64_w, i32_w]; rfl)
  refine pure_ (i := 5) (N := some 126) (v := ?_) (a' := ?_) (zF 11 55) rfl rfl (any_of HT_.out (by kernel_rfl)) (fun _ _ _ h => h) (Or.inl ⟨by rfl, ?_⟩) ?_ ?_
  rotate_left; (intro w'; go_simp; with_reducible rfl); rotate_left; (simp only [Act.put, zA, zZ, zS, i64_w, i32_w]; rfl)
  refine pure_ (i := 6) (N := some 127) (v := ?_) (a' := ?_) (zF 11 119) rfl rfl (any_of HT_.out (by kernel_rfl)) (fun _ _ _ h => h) (Or.inl ⟨by rfl, ?_⟩) ?_ ?_
  rotate_left; (intro w'; go_simp; with_reducible rfl); rotate_left; (simp only [Act.put, zA, zZ, zS, i64_w, i32_w]; rfl)
  refine take_ (i := 3) (N := some 124) (v := ?_) (a' := ?_) (zF 11 127) rfl rfl (take_ofW HT_.out HW_.out (by kernel_rfl)) (fun _ _ _ h => h) (Or.inl ⟨by rfl, ?_⟩) hHeld ?_ ?_
  rotate_left; (rintro w' ⟨s0, s1, s2⟩; go_simp; with_reducible rfl); rotate_left; (simp only [Act.put, zA, zZ, zS, i64_w, i32_w]; rfl)
  refine take_ (i := 7) (N := some 128) (v := ?_) (a' := ?_) (zF 11 255) rfl rfl (take_ofW HT_.out HW_.out (by kernel_rfl)) (fun _ _ _ h => h) (Or.inl ⟨by rfl, ?_⟩) hHeld ?_ ?_
  rotate_left; (rintro w' ⟨s0, s1, s2⟩; go_simp; with_reducible rfl); rotate_left; (simp only [Act.put, zA, zZ, zS, i64_w, i32_w]; rfl)
  refine pure_ (i := 8) (N := some 129) (v := ?_) (a' := ?_) (zF 11 511) rfl rfl (any_of HT_.out (by kernel_rfl)) (fun _ _ _ h => h) (Or.inl ⟨by rfl, ?_⟩) ?_ ?_
  rotate_left; (intro w'; go_simp; with_reducible rfl); rotate_left; (simp only [Act.put, zA, zZ, zS, i64_w, i32_w]; rfl)
  refine take_ (i := 9) (N := some 130) (v := ?_) (a' := ?_) (zF 11 1023) rfl rfl (take_ofW HT_.out HW_.out (by kernel_rfl)) (fun _ _ _ h => h) (Or.inl ⟨by rfl, ?_⟩) hHeld ?_ ?_
  rotate_left; (rintro w' ⟨s0, s1, s2⟩; go_simp; with_reducible rfl); rotate_left; (simp only [Act.put, zA, zZ, zS, i64_w, i32_w]; rfl)
  refine pure_ (i := 10) (N := some 131) (v := ?_) (a' := ?_) (zF 11 2047) rfl rfl (any_of HT_.out (by kernel_rfl)) (fun _ _ _ h => h) (Or.inl ⟨by rfl, ?_⟩) ?_ ?_
  rotate_left; (intro w'; go_simp; with_reducible rfl); rotate_left; (simp only [Act.put, zA, zZ, zS, i64_w, i32_w]; rfl)
  refine done_ (done_of HT_.out (by kernel_rfl)) ?_
  clear hHeld
  go_wp2_with fail
  refine start_ (n := 10) (S := (fun w' => w'.cell? ⟨g, 9, none⟩ = some (.slice (some ⟨gp, 0, none⟩) 32 32) ∧ w'.cell? ⟨g, 12, none⟩ = some (.int .i64 0) ∧ w'.cell? ⟨gp, 0, none⟩ = some (.int .i64 2147483647))) (ds := [9]) #[false, false, false, false, false, false, false, false, false, false] (by kernel_rfl) rfl rfl ⟨(H2d.out.cell 9).trans rfl, (H2d.out.cell 12).trans rfl, H2d.out.cellp⟩ (fun hHeld => ?_)
  refine with_tabW r25_tab r25_bits (fun HT_ HW_ => ?_)
  have H3d := Aside0.mk (show PS w2d.drew g gb gp gd dl 0 cmd 1 2147483647 from H2d.out)
  have B3d := Aside0.mk (show Below B w w2d.drew from B2d.out.drew)
  have F3d := Aside0.mk (show Far w w2d.drew g gp from F2d.out)
  clear H2d B2d F2d
  generalize w2d.drew = w3d at H3d B3d F3d hHeld ⊢
  refine pure_ (i := 0) (N := some 132) (v := ?_) (a' := ?_) (zF 10 1) rfl rfl (any_of HT_.out (by kernel_rfl)) (fun _ _ _ h => h) (Or.inl ⟨by rfl, ?_⟩) ?_ ?_
  rotate_left; (intro w'; go_simp; with_reducible rfl); rotate_left; (simp only [Act.put, zA, zZ, zS, i64_w, i32_w]; rfl)
  refine pure_ (i := 1) (N := some 133) (v := ?_) (a' := ?_) (zF 10 3) rfl rfl (any_of HT_.out (by kernel_rfl)) (fun _ _ _ h => h) (Or.inl ⟨by rfl, ?_⟩) ?_ ?_
  rotate_left; (intro w'; go_simp; with_reducible rfl); rotate_left; (simp only [Act.put, zA, zZ, zS, i64_w, i32_w]; rfl)
  refine pure_ (i := 2) (N := some 134) (v := ?_) (a' := ?_) (zF 10 7) rfl rfl (any_of HT_.out (by kernel_rfl)) (fun _ _ _ h => h) (Or.inl ⟨by rfl, ?_⟩) ?_ ?_
  rotate_left; (intro w'; go_simp; with_reducible rfl); rotate_left; (simp only [Act.put, zA, zZ, zS, i64_w, i32_w]; rfl)
  refine pure_ (i := 4) (N := some 136) (v := ?_) (a' := ?_) (zF 10 23) rfl rfl (any_of HT_.out (by kernel_rfl)) (fun _ _ _ h => h) (Or.inl ⟨by rfl, ?_⟩) ?_ ?_
  rotate_left; (intro w'; go_simp; with_reducible rfl); rotate_left; (simp only [Act.put, zA, zZ, zS, i64_w, i32_w]; rfl)
  refine pure_ (i := 5) (N := some 137) (v := ?_) (a' := ?_) (zF 10 55) rfl rfl (any_of HT_.out (by kernel_rfl)) (fun _ _ _ h => h) (Or.inl ⟨by rfl, ?_⟩) ?_ ?_
  rotate_left; (intro w'; go_simp; with_reducible rfl); rotate_left; (simp only [Act.put, zA, zZ, zS, i64_w, i32_w]; rfl)
  refine pure_ (i := 6) (N := some 138) (v := ?_) (a' := ?_) (zF 10 119) rfl rfl (any_of HT_.out (by kernel_rfl)) (fun _ _ _ h => h) (Or.inl ⟨by rfl, ?_⟩) ?_ ?_
  rotate_left; (intro w'; go_simp; with_reducible rfl); rotate_left; (simp only [Act.put, zA, zZ, zS, i64_w, i32_w]; rfl)
  refine take_ (i := 3) (N := some 135) (v := ?_) (a' := ?_) (zF 10 127) rfl rfl (take_ofW HT_.out HW_.out (by kernel_rfl)) (fun _ _ _ h => h) (Or.inl ⟨by rfl, ?_⟩) hHeld ?_ ?_
  rotate_left; (rintro w' ⟨s0, s1, s2⟩; go_simp; with_reducible rfl); rotate_left; (simp only [Act.put, zA, zZ, zS, i64_w, i32_w]; rfl)
  refine take_ (i := 7) (N := some 139) (v := ?_) (a' := ?_) (zF 10 255) rfl rfl (take_ofW HT_.out HW_.out (by kernel_rfl)) (fun _ _ _ h => h) (Or.inl ⟨by rfl, ?_⟩) hHeld ?_ ?_
  rotate_left; (rintro w' ⟨s0, s1, s2⟩; go_simp; with_reducible rfl); rotate_left; (simp only [Act.put, zA, zZ, zS, i64_w, i32_w]; rfl)
  refine pure_ (i := 8) (N := some 140) (v := ?_) (a' := ?_) (zF 10 511) rfl rfl (any_of HT_.out (by kernel_rfl)) (fun _ _ _ h => h) (Or.inl ⟨by rfl, ?_⟩) ?_ ?_
  rotate_left; (intro w'; go_simp; with_reducible rfl); rotate_left; (simp only [Act.put, zA, zZ, zS, i64_w, i32_w]; rfl)
  refine last_ (i := 9) (N := none) (zF 10 1023) rfl rfl (one_of HT_.out (by kernel_rfl)) (by decide) (fun K hK => ?_)
  have q3d : w3d.cell? ⟨gp, 0, none⟩ = some (.int .i64 2147483647) := H3d.out.cellp
  have qf3d := H3d.out.freep 0
  refine skip_ (w1 := ?_) (by rfl) rfl ?_ ?_
  rotate_left
  · go_simp
    with_reducible rfl
  refine hK.out _ _ ?_
  clear hK K
  clear q3d qf3d
  refine done_ (done_of HT_.out (by kernel_rfl)) ?_
  clear hHeld
  have H3 := Aside0.mk (H3d.out.set_p0 0)
  have B3 := Aside0.mk (show Below B w (w3d.setCell ⟨gp, 0, none⟩ (.int .i64 0)) from B3d.out.setCell hgp _)
  have F3 := Aside0.mk (show Far w (w3d.setCell ⟨gp, 0, none⟩ (.int .i64 0)) g gp from F3d.out.setp _)
  clear H3d B3d F3d
  generalize w3d.setCell ⟨gp, 0, none⟩ (.int .i64 0) = w3 at H3 B3 F3 ⊢
  go_wp2_with fail
  refine start_ (n := 13) (S := (fun w' => w'.cell? ⟨g, 9, none⟩ = some (.slice (some ⟨gp, 0, none⟩) 32 32) ∧ w'.cell? ⟨g, 12, none⟩ = some (.int .i64 0) ∧ w'.cell? ⟨gp, 0, none⟩ = some (.int .i64 0))) (ds := [12]) #[false, false, false, false, false, false, false, false, false, false, false, false, false] (by kernel_rfl) rfl rfl ⟨(H3.out.cell 9).trans rfl, (H3.out.cell 12).trans rfl, H3.out.cellp⟩ (fun hHeld => ?_)
  refine with_tabW r26_tab r26_bits (fun HT_ HW_ => ?_)
  have H4d := Aside0.mk (show PS w3.drew g gb gp gd dl 0 cmd 1 0 from H3.out)
  have B4d := Aside0.mk (show Below B w w3.drew from B3.out.drew)
  have F4d := Aside0.mk (show Far w w3.drew g gp from F3.out)
  clear H3 B3 F3
  generalize w3.drew = w4d at H4d B4d F4d hHeld ⊢
  refine pure_ (i := 0) (N := some 141) (v := ?_) (a' := ?_) (zF 13 1) rfl rfl (any_of HT_.out (by kernel_rfl)) (fun _ _ _ h => h) (Or.inl ⟨by rfl, ?_⟩) ?_ ?_
  rotate_left; (intro w'; go_simp; with_reducible rfl); rotate_left; (simp only [Act.put, zA, zZ, zS, i64_w, i32_w]; rfl)
  refine pure_ (i := 1) (N := some 142) (v := ?_) (a' := ?_) (zF 13 3) rfl rfl (any_of HT_.out (by kernel_rfl)) (fun _ _ _ h => h) (Or.inl ⟨by rfl, ?_⟩) ?_ ?_
  rotate_left; (intro w'; go_simp; with_reducible rfl); rotate_left; (simp only [Act.put, zA, zZ, zS, i64_w, i32_w]; rfl)
  refine pure_ (i := 2) (N := some 143) (v := ?_) (a' := ?_) (zF 13 7) rfl rfl (any_of HT_.out (by kernel_rfl)) (fun _ _ _ h => h) (Or.inl ⟨by rfl, ?_⟩) ?_ ?_
  rotate_left; (intro w'; go_simp; with_reducible rfl); rotate_left; (simp only [Act.put, zA, zZ, zS, i64_w, i32_w]; rfl)
  refine pure_ (i := 4) (N := some 145) (v := ?_) (a' := ?_) (zF 13 23) rfl rfl (any_of HT_.out (by kernel_rfl)) (fun _ _ _ h => h) (Or.inl ⟨by rfl, ?_⟩) ?_ ?_
  rotate_left; (intro w'; go_simp; with_reducible rfl); rotate_left; (simp only [Act.put, zA, zZ, zS, i64_w, i32_w]; rfl)
  refine pure_ (i := 5) (N := some 146) (v := ?_) (a' := ?_) (zF 13 55) rfl rfl (any_of HT_.out (by kernel_rfl)) (fun _ _ _ h => h) (Or.inl ⟨by rfl, ?_⟩) ?_ ?_
  rotate_left; (intro w'; go_simp; with_reducible rfl); rotate_left; (simp only [Act.put, zA, zZ, zS, i64_w, i32_w]; rfl)
  refine pure_ (i := 6) (N := some 147) (v := ?_) (a' := ?_) (zF 13 119) rfl rfl (any_of HT_.out (by kernel_rfl)) (fun _ _ _ h => h) (Or.inl ⟨by rfl, ?_⟩) ?_ ?_
  rotate_left; (intro w'; go_simp; with_reducible rfl); rotate_left; (simp only [Act.put, zA, zZ, zS, i64_w, i32_w]; rfl)
  refine take_ (i := 3) (N := some 144) (v := ?_) (a' := ?_) (zF 13 127) rfl rfl (take_ofW HT_.out HW_.out (by kernel_rfl)) (fun _ _ _ h => h) (Or.inl ⟨by rfl, ?_⟩) hHeld ?_ ?_
  rotate_left; (rintro w' ⟨s0, s1, s2⟩; go_simp; with_reducible rfl); rotate_left; (simp only [Act.put, zA, zZ, zS, i64_w, i32_w]; rfl)
  refine take_ (i := 7) (N := some 148) (v := ?_) (a' := ?_) (zF 13 255) rfl rfl (take_ofW HT_.out HW_.out (by kernel_rfl)) (fun _ _ _ h => h) (Or.inl ⟨by rfl, ?_⟩) hHeld ?_ ?_
  rotate_left; (rintro w' ⟨s0, s1, s2⟩; go_simp; with_reducible rfl); rotate_left; (simp only [Act.put, zA, zZ, zS, i64_w, i32_w]; rfl)
  refine pure_ (i := 8) (N := some 149) (v := ?_) (a' := ?_) (zF 13 511) rfl rfl (any_of HT_.out (by kernel_rfl)) (fun _ _ _ h => h) (Or.inl ⟨by rfl, ?_⟩) ?_ ?_
  rotate_left; (intro w'; go_simp; with_reducible rfl); rotate_left; (simp only [Act.put, zA, zZ, zS, i64_w, i32_w]; rfl)
  refine take_ (i := 9) (N := some 150) (v := ?_) (a' := ?_) (zF 13 1023) rfl rfl (take_ofW HT_.out HW_.out (by kernel_rfl)) (fun _ _ _ h => h) (Or.inl ⟨by rfl, ?_⟩) hHeld ?_ ?_
  rotate_left; (rintro w' ⟨s0, s1, s2⟩; go_simp; with_reducible rfl); rotate_left; (simp only [Act.put, zA, zZ, zS, i64_w, i32_w]; rfl)
  refine pure_ (i := 10) (N := some 151) (v := ?_) (a' := ?_) (zF 13 2047) rfl rfl (any_of HT_.out (by kernel_rfl)) (fun _ _ _ h => h) (Or.inl ⟨by rfl, ?_⟩) ?_ ?_
  rotate_left; (intro w'; go_simp; with_reducible rfl); rotate_left; (simp only [Act.put, zA, zZ, zS, i64_w, i32_w]; rfl)
  refine pure_ (i := 11) (N := some 152) (v := ?_) (a' := ?_) (zF 13 4095) rfl rfl (any_of HT_.out (by kernel_rfl)) (fun _ _ _ h => h) (Or.inl ⟨by rfl, ?_⟩) ?_ ?_
  rotate_left; (intro w'; go_simp; with_reducible rfl); rotate_left; (simp only [Act.put, zA, zZ, zS, i64_w, i32_w]; rfl)
  refine last_ (i := 12) (N := none) (zF 13 8191) rfl rfl (one_of HT_.out (by kernel_rfl)) (by decide) (fun K hK => ?_)
  have q4d : w4d.cell? ⟨gp, 0, none⟩ = some (.int .i64 0) := H4d.out.cellp
  have qf4d := H4d.out.freep 0
  refine skip_ (w1 := ?_) (by rfl) rfl ?_ ?_
  rotate_left
  · go_simp
    with_reducible rfl
  refine hK.out _ _ ?_
  clear hK K
  clear q4d qf4d
  refine done_ (done_of HT_.out (by kernel_rfl)) ?_
  clear hHeld
  have H4 := Aside0.mk (H4d.out.set_p0 (wrap64 0))
  have B4 := Aside0.mk (show Below B w (w4d.setCell ⟨gp, 0, none⟩ (.int .i64 (wrap64 0))) from B4d.out.setCell hgp _)
  have F4 := Aside0.mk (show Far w (w4d.setCell ⟨gp, 0, none⟩ (.int .i64 (wrap64 0))) g gp from F4d.out.setp _)
  clear H4d B4d F4d
  generalize w4d.setCell ⟨gp, 0, none⟩ (.int .i64 (wrap64 0)) = w4 at H4 B4 F4 ⊢
  replace H4 : Aside0 (PS w4 g gb gp gd dl 0 cmd 1 0) := ⟨by have h_ := H4.out; rw [show ((wrap64 0) : Int) = 0 by first | decide | (unfold wrap64; omega) | (rw [IntKind.wrap_u8]; unfold wrap64; omega)] at h_; exact h_⟩
  go_wp2_with fail
  refine start_ (n := 16) (S := (fun w' => w'.cell? ⟨g, 9, none⟩ = some (.slice (some ⟨gp, 0, none⟩) 32 32) ∧ w'.cell? ⟨g, 12, none⟩ = some (.int .i64 0) ∧ w'.cell? ⟨gp, 0, none⟩ = some (.int .i64 0))) (ds := [15]) #[false, false, false, false, false, false, false, false, false, false, false, false, false, false, false, false] (by kernel_rfl) rfl rfl ⟨(H4.out.cell 9).trans rfl, (H4.out.cell 12).trans rfl, H4.out.cellp⟩ (fun hHeld => ?_)
  refine with_tabW r27_tab r27_bits (fun HT_ HW_ => ?_)
  have H5d := Aside0.mk (show PS w4.drew g gb gp gd dl 0 cmd 1 0 from H4.out)
  have B5d := Aside0.mk (show Below B w w4.drew from B4.out.drew)
  have F5d := Aside0.mk (show Far w w4.drew g gp from F4.out)
  clear H4 B4 F4
  generalize w4.drew = w5d at H5d B5d F5d hHeld ⊢
  refine pure_ (i := 0) (N := some 153) (v := ?_) (a' := ?_) (zF 16 1) rfl rfl (any_of HT_.out (by kernel_rfl)) (fun _ _ _ h => h) (Or.inl ⟨by rfl, ?_⟩) ?_ ?_
  rotate_left; (intro w'; go_simp; with_reducible rfl); rotate_left; (simp only [Act.put, zA, zZ, zS, i64_w, i32_w]; rfl)
  refine pure_ (i := 1) (N := some 154) (v := ?_) (a' := ?_) (zF 16 3) rfl rfl (any_of HT_.out (by kernel_rfl)) (fun _ _ _ h => h) (Or.inl ⟨by rfl, ?_⟩) ?_ ?_
  rotate_left; (intro w'; go_simp; with_reducible rfl); rotate_left; (simp only [Act.put, zA, zZ, zS, i64_w, i32_w]; rfl)
  refine pure_ (i := 2) (N := some 155) (v := ?_) (a' := ?_) (zF 16 7) rfl rfl (any_of HT_.out (by kernel_rfl)) (fun _ _ _ h => h) (Or.inl ⟨by rfl, ?_⟩) ?_ ?_
  rotate_left; (intro w'; go_simp; with_reducible rfl); rotate_left; (simp only [Act.put, zA, zZ, zS, i64_w, i32_w]; rfl)
  refine pure_ (i := 4) (N := some 157) (v := ?_) (a' := ?_) (zF 16 23) rfl rfl (any_of HT_.out (by kernel_rfl)) (fun _ _ _ h => h) (Or.inl ⟨by rfl, ?_⟩) ?_ ?_
  rotate_left; (intro w'; go_simp; with_reducible rfl); rotate_left; (simp only [Act.put, zA, zZ, zS, i64_w, i32_w]; rfl)
  refine pure_ (i := 5) (N := some 158) (v := ?_) (a' := ?_) (zF 16 55) rfl rfl (any_of HT_.out (by kernel_rfl)) (fun _ _ _ h => h) (Or.inl ⟨by rfl, ?_⟩) ?_ ?_
  rotate_left; (intro w'; go_simp; with_reducible rfl); rotate_left; (simp only [Act.put, zA, zZ, zS, i64_w, i32_w]; rfl)
  refine pure_ (i := 6) (N := some 159) (v := ?_) (a' := ?_) (zF 16 119) rfl rfl (any_of HT_.out (by kernel_rfl)) (fun _ _ _ h => h) (Or.inl ⟨by rfl, ?_⟩) ?_ ?_
  rotate_left; (intro w'; go_simp; with_reducible rfl); rotate_left; (simp only [Act.put, zA, zZ, zS, i64_w, i32_w]; rfl)
  refine pure_ (i := 10) (N := some 163) (v := ?_) (a' := ?_) (zF 16 1143) rfl rfl (any_of HT_.out (by kernel_rfl)) (fun _ _ _ h => h) (Or.inl ⟨by rfl, ?_⟩) ?_ ?_
  rotate_left; (intro w'; go_simp; with_reducible rfl); rotate_left; (simp only [Act.put, zA, zZ, zS, i64_w, i32_w]; rfl)
  refine pure_ (i := 11) (N := some 164) (v := ?_) (a' := ?_) (zF 16 3191) rfl rfl (any_of HT_.out (by kernel_rfl)) (fun _ _ _ h => h) (Or.inl ⟨by rfl, ?_⟩) ?_ ?_
  rotate_left; (intro w'; go_simp; with_reducible rfl); rotate_left; (simp only [Act.put, zA, zZ, zS, i64_w, i32_w]; rfl)
  refine pure_ (i := 12) (N := some 165) (v := ?_) (a' := ?_) (zF 16 7287) rfl rfl (any_of HT_.out (by kernel_rfl)) (fun _ _ _ h => h) (Or.inl ⟨by rfl, ?_⟩) ?_ ?_
  rotate_left; (intro w'; go_simp; with_reducible rfl); rotate_left; (simp only [Act.put, zA, zZ, zS, i64_w, i32_w]; rfl)
  refine take_ (i := 3) (N := some 156) (v := ?_) (a' := ?_) (zF 16 7295) rfl rfl (take_ofW HT_.out HW_.out (by kernel_rfl)) (fun _ _ _ h => h) (Or.inl ⟨by rfl, ?_⟩) hHeld ?_ ?_
  rotate_left; (rintro w' ⟨s0, s1, s2⟩; go_simp; with_reducible rfl); rotate_left; (simp only [Act.put, zA, zZ, zS, i64_w, i32_w]; rfl)
  refine take_ (i := 7) (N := some 160) (v := ?_) (a' := ?_) (zF 16 7423) rfl rfl (take_ofW HT_.out HW_.out (by kernel_rfl)) (fun _ _ _ h => h) (Or.inl ⟨by rfl, ?_⟩) hHeld ?_ ?_
  rotate_left; (rintro w' ⟨s0, s1, s2⟩; go_simp; with_reducible rfl); rotate_left; (simp only [Act.put, zA, zZ, zS, i64_w, i32_w]; rfl)
  refine pure_ (i := 8) (N := some 161) (v := ?_) (a' := ?_) (zF 16 7679) rfl rfl (any_of HT_.out (by kernel_rfl)) (fun _ _ _ h => h) (Or.inl ⟨by rfl, ?_⟩) ?_ ?_
  rotate_left; (intro w'; go_simp; with_reducible rfl); rotate_left; (simp only [Act.put, zA, zZ, zS, i64_w, i32_w]; rfl)
  refine take_ (i := 9) (N := some 162) (v := ?_) (a' := ?_) (zF 16 8191) rfl rfl (take_ofW HT_.out HW_.out (by kernel_rfl)) (fun _ _ _ h => h) (Or.inl ⟨by rfl, ?_⟩) hHeld ?_ ?_
  rotate_left; (rintro w' ⟨s0, s1, s2⟩; go_simp; with_reducible rfl); rotate_left; (simp only [Act.put, zA, zZ, zS, i64_w, i32_w]; rfl)
  refine pure_ (i := 13) (N := some 166) (v := ?_) (a' := ?_) (zF 16 16383) rfl rfl (any_of HT_.out (by kernel_rfl)) (fun _ _ _ h => h) (Or.inl ⟨by rfl, ?_⟩) ?_ ?_
  rotate_left; (intro w'; go_simp; with_reducible rfl); rotate_left; (simp only [Act.put, zA, zZ, zS, i64_w, i32_w]; rfl)
  refine pure_ (i := 14) (N := some 167) (v := ?_) (a' := ?_) (zF 16 32767) rfl rfl (any_of HT_.out (by kernel_rfl)) (fun _ _ _ h => h) (Or.inl ⟨by rfl, ?_⟩) ?_ ?_
  rotate_left; (intro w'; go_simp; with_reducible rfl); rotate_left; (simp only [Act.put, zA, zZ, zS, i64_w, i32_w]; rfl)
  refine last_ (i := 15) (N := none) (zF 16 65535) rfl rfl (one_of HT_.out (by kernel_rfl)) (by decide) (fun K hK => ?_)
  have q5d : w5d.cell? ⟨gp, 0, none⟩ = some (.int .i64 0) := H5d.out.cellp
  have qf5d := H5d.out.freep 0
  refine skip_ (w1 := ?_) (by rfl) rfl ?_ ?_
  rotate_left
  · go_simp
    with_reducible rfl
  refine hK.out _ _ ?_
  clear hK K
  clear q5d qf5d
  refine done_ (done_of HT_.out (by kernel_rfl)) ?_
  clear hHeld
  have H5 := Aside0.mk (H5d.out.set_p0 (wrap64 (wrap64 (IntKind.u8.wrap 1))))
  have B5 := Aside0.mk (show Below B w (w5d.setCell ⟨gp, 0, none⟩ (.int .i64 (wrap64 (wrap64 (IntKind.u8.wrap 1))))) from B5d.out.setCell hgp _)
  have F5 := Aside0.mk (show Far w (w5d.setCell ⟨gp, 0, none⟩ (.int .i64 (wrap64 (wrap64 (IntKind.u8.wrap 1))))) g gp from F5d.out.setp _)
  clear H5d B5d F5d
  generalize w5d.setCell ⟨gp, 0, none⟩ (.int .i64 (wrap64 (wrap64 (IntKind.u8.wrap 1)))) = w5 at H5 B5 F5 ⊢
  replace H5 : Aside0 (PS w5 g gb gp gd dl 0 cmd 1 1) := ⟨by have h_ := H5.out; rw [show ((wrap64 (wrap64 (IntKind.u8.wrap 1))) : Int) = 1 by first | decide | (unfold wrap64; omega) | (rw [IntKind.wrap_u8]; unfold wrap64; omega)] at h_; exact h_⟩
  go_wp2
  go_end0
  exact ⟨rfl, H5.out, B5.out, F5.out⟩
end Go.Proofs.YtmpmfdghdaofhaaDoor.Ma
