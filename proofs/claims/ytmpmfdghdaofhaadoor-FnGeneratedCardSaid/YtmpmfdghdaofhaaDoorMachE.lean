/- The closure HandleCsi of impl.listen, by hand. -/
import Derived.Test.YtmpmfdghdaofhaaDoorMachP
import Derived.Test.YtmpmfdghdaofhaaDoorPIx1
namespace Go.Proofs.YtmpmfdghdaofhaaDoor.Ma
set_option linter.unusedVariables false
set_option linter.unusedSimpArgs false
open Go Go.RowKit Go.Proofs.YtmpmfdghdaofhaaDoorW.PrintWords Go.Proofs.YtmpmfdghdaofhaaDoorW.PrintLast Go.Proofs.YtmpmfdghdaofhaaDoorW.PrintMore

theorem ints1 (p : Int) : Go.Proofs.YtmpmfdghdaofhaaDoor.PI.impl_ints.f 2 [p] = some [p] := by
  simp [Go.Proofs.YtmpmfdghdaofhaaDoor.PI.impl_ints.f, Go.Proofs.YtmpmfdghdaofhaaDoor.PI.impl_ints.l0, rd, wrap64]

def csi_T : Bool × List (List Nat × List Nat) := (true, [([], []), ([], []), ([1], [1]), ([2], [2]), ([], []), ([], []), ([5], [5]), ([4, 6], [4, 6]), ([7], [7]), ([3, 8, 6], [3, 8]), ([0, 0, 1, 2, 3, 4, 5, 6, 7, 8, 9], [0]), ([10, 9, 9, 0, 1, 2, 3, 4, 5, 6, 7, 8, 9], [9, 10])])
def csi_B : List Nat := [0, 0, 2, 6, 0, 0, 32, 112, 240, 510, 1023, 2047]
theorem csi__tab : rtab .any (opsOf Tryd.f60 0) = csi_T := by kernel_rfl
theorem csi__bits : waitsOk csi_T.2 csi_B = true := by kernel_rfl

set_option maxHeartbeats 8000000 in
set_option maxRecDepth 100000 in
theorem csi_ (w : World) (B gb go : Nat) (xs : List (List Value)) (cm p0 : Int) (Ap : Option Addr) (cp Bq : Nat) (hB : B ≤ go) (hx : xs.length ≤ 1000000) (hbase : B ≤ w.heap.size) (hptr : Ptr w gb go) (hout : OutS w B go xs) (hq : Kd.R (Kd.int .i64) 98 w Bq (fun _ => True) (.slice Ap 1 cp) [p0]) :
    Calls Tryd.prog 60 #[.int .i64 cm, .slice Ap 1 cp, .pointer (some ⟨gb, 0, none⟩)] w fun e w' => e = .returned (.tuple #[]) ∧ (∃ Ai ci, OutS w' B go (xs ++ [[.int .i64 2, .int .i64 0, .int .u8 0, .int .i64 cm, (.slice Ai 1 ci : Value), .slice none 0 0]])) ∧ Below B w w' ∧ FarT w w' := by
  obtain ⟨v, hg, hr⟩ := hout
  obtain ⟨A, c, rfl⟩ := Kd.R_slice hr
  have hp : w.cell? ⟨gb, 0, none⟩ = some (.pointer (some ⟨go, 0, none⟩)) := (blk_cell hptr 0).trans rfl
  have ho : w.cell? ⟨go, 0, none⟩ = some (.slice A xs.length c) := (blk_cell hg 0).trans rfl
  have hne : some go ≠ (.slice A xs.length c : Value).ownBlock := Kd.R_away (Kd.R_types hr hg (by decide)) (fun _ hk => hk.2)
  have hty : ∀ (k : Nat) (cc : Array Value) (t : TypeId), w.heap[k]? = some (.cells cc t (0, 0)) → t ≠ 54 → some k ≠ (.slice A xs.length c : Value).ownBlock := by
    intro k cc t hk h54 e
    obtain ⟨cc', hk'⟩ := Kd.R_typed hr k e.symm
    rw [hk] at hk'
    simp at hk'
    exact h54 hk'.2
  have HQ := Aside0.mk hq
  clear hq
  have HR := Aside0.mk hr
  have HG := Aside0.mk hg
  have HP := Aside0.mk (show w.heap[gb]? = some (.cells #[.pointer (some ⟨go, 0, none⟩)] 75 (0, 0)) from hptr)
  have HBL := Aside0.mk (Below.refl B w)
  have HBS := Aside0.mk hbase
  clear hr hg hptr hbase
  go_enter Tryd.func60, Tryd.ntmps60
  refine start_ (n := 12) (S := (fun w' => w'.cell? ⟨gb, 0, none⟩ = some (.pointer (some ⟨go, 0, none⟩)) ∧ w'.cell? ⟨go, 0, none⟩ = some (.slice A xs.length c))) (ds := [11]) #[false, false, false, false, false, false, false, false, false, false, false, false] (by kernel_rfl) rfl rfl ⟨hp, ho⟩ (fun hHeld => ?_)
  refine with_tabW csi__tab csi__bits (fun HT_ HW_ => ?_)
  have HR2 := Aside0.mk (Kd.R_drew HR.out)
  have HBL2 := Aside0.mk HBL.out.drew
  have HG2 := Aside0.mk (show w.drew.heap[go]? = _ from HG.out)
  have HBS2 := Aside0.mk (show B ≤ w.drew.heap.size from HBS.out)
  have HP2 := Aside0.mk (show w.drew.heap[gb]? = _ from HP.out)
  have HDW := Aside0.mk (show ∀ k : Nat, k < w.heap.size → w.drew.heap[k]? = w.heap[k]? from fun _ _ => rfl)
  have HQ2 := Aside0.mk (Kd.R_drew HQ.out)
  have HSZ := Aside0.mk (show w.drew.heap.size = w.heap.size from rfl)
  generalize w.drew = wd at HQ2 HSZ HR2 HBL2 HG2 HP2 HBS2 HDW hHeld ⊢
  refine pure_ (i := 4) (N := some 9) (v := ?_) (a' := ?_) #[false, false, false, false, true, false, false, false, false, false, false, false] rfl rfl (any_of HT_.out (by kernel_rfl)) (fun _ _ _ h => h) (Or.inl ⟨by rfl, ?_⟩) ?_ ?_
  rotate_left
  · intro w'
    go_simp
    with_reducible rfl
  rotate_left
  · simp only [Act.put, List.setIfInBounds_toArray, List.set_cons_zero, List.set_cons_succ, i64_w, i32_w]
    rfl
  refine pure_ (i := 5) (N := some 10) (v := ?_) (a' := ?_) #[false, false, false, false, true, true, false, false, false, false, false, false] rfl rfl (any_of HT_.out (by kernel_rfl)) (fun _ _ _ h => h) (Or.inl ⟨by rfl, ?_⟩) ?_ ?_
  rotate_left
  · intro w'
    go_simp
    with_reducible rfl
  rotate_left
  · simp only [Act.put, List.setIfInBounds_toArray, List.set_cons_zero, List.set_cons_succ, i64_w, i32_w]
    rfl
  refine take_ (i := 0) (N := some 5) (v := ?_) (a' := ?_) #[true, false, false, false, true, true, false, false, false, false, false, false] rfl rfl (take_ofW HT_.out HW_.out (by kernel_rfl)) (fun _ _ _ h => h) (Or.inl ⟨by rfl, ?_⟩) hHeld ?_ ?_
  rotate_left
  · rintro w' ⟨s0, s1⟩
    go_simp
    with_reducible rfl
  rotate_left
  · simp only [Act.put, List.setIfInBounds_toArray, List.set_cons_zero, List.set_cons_succ, i64_w, i32_w]
    rfl
  refine take_ (i := 1) (N := some 6) (v := ?_) (a' := ?_) #[true, true, false, false, true, true, false, false, false, false, false, false] rfl rfl (take_ofW HT_.out HW_.out (by kernel_rfl)) (fun _ _ _ h => h) (Or.inl ⟨by rfl, ?_⟩) hHeld ?_ ?_
  rotate_left
  · rintro w' ⟨s0, s1⟩
    go_simp
    with_reducible rfl
  rotate_left
  · simp only [Act.put, List.setIfInBounds_toArray, List.set_cons_zero, List.set_cons_succ, i64_w, i32_w]
    rfl
  refine pure_ (i := 2) (N := some 7) (v := ?_) (a' := ?_) #[true, true, true, false, true, true, false, false, false, false, false, false] rfl rfl (any_of HT_.out (by kernel_rfl)) (fun _ _ _ h => h) (Or.inl ⟨by rfl, ?_⟩) ?_ ?_
  rotate_left
  · intro w'
    go_simp
    with_reducible rfl
  rotate_left
  · simp only [Act.put, List.setIfInBounds_toArray, List.set_cons_zero, List.set_cons_succ, i64_w, i32_w]
    rfl
  refine take_ (i := 3) (N := some 8) (v := ?_) (a' := ?_) #[true, true, true, true, true, true, false, false, false, false, false, false] rfl rfl (take_ofW HT_.out HW_.out (by kernel_rfl)) (fun _ _ _ h => h) (Or.inl ⟨by rfl, ?_⟩) hHeld ?_ ?_
  rotate_left
  · rintro w' ⟨s0, s1⟩
    go_simp
    with_reducible rfl
  rotate_left
  · simp only [Act.put, List.setIfInBounds_toArray, List.set_cons_zero, List.set_cons_succ, i64_w, i32_w]
    rfl
  refine one_ (i := 6) (N := some 11) #[true, true, true, true, true, true, true, false, false, false, false, false] rfl rfl (one_of HT_.out (by kernel_rfl)) (by decide) (fun K hK => ?_)
  refine goes_ Tryd.func34 (by kernel_rfl) rfl #[.slice Ap 1 cp] (by rfl) rfl rfl (by (try simp only [List.map_toArray, List.map_cons, List.map_nil]); first | done | rfl | (simp [Act.eval, *]; done)) ?_
  refine (Go.Proofs.YtmpmfdghdaofhaaDoor.PI.impl_ints.calls 2 Ap cp [p0] [p0] _ (Kd.R_reads' HQ2.out).2.2 (Kd.R_reads' HQ2.out).2.1 (ints1 p0)).mono ?_
  rintro e wi ⟨vi, rfl, hri, hbi⟩
  obtain ⟨Ai, ci, rfl⟩ := Kd.R_slice hri
  refine ⟨_, rfl, ?_⟩
  have n0_ := Aside0.mk (Kd.R_below HR2.out hbi)
  have n1_ := Aside0.mk (HBL2.out.trans (hbi.mono HBS2.out))
  have n2_ := Aside0.mk ((hbi.block go (blk_lt HG2.out)).trans HG2.out)
  have n3_ := Aside0.mk ((hbi.block gb (blk_lt HP2.out)).trans HP2.out)
  have n4_ := Aside0.mk (Nat.le_trans HBS2.out hbi.size)
  have n5_ := Aside0.mk (show ∀ k : Nat, k < w.heap.size → wi.heap[k]? = w.heap[k]? from fun k hk => (hbi.block k (by rw [HSZ.out]; exact hk)).trans (HDW.out k hk))
  clear HR2 HBL2 HG2 HP2 HBS2 HDW hri hbi
  have HR2 := n0_
  have HBL2 := n1_
  have HG2 := n2_
  have HP2 := n3_
  have HBS2 := n4_
  have HDW := n5_
  clear n0_ n1_ n2_ n3_ n4_ n5_
  obtain ⟨ys, hys⟩ : ∃ ys : List (List Value), ys = xs ++ [[.int .i64 2, .int .i64 0, .int .u8 0, .int .i64 cm, .slice Ai 1 ci, .slice none 0 0]] := ⟨_, rfl⟩
  have HY := Aside0.mk hys
  clear hys
  refine hK.out _ _ ⟨(blk_cell HP2.out 0).trans rfl, (blk_cell HG2.out 0).trans rfl⟩ (fun hHeld => ?_)
  clear hK K
  refine norm_ (a' := ?_) ?_ ?_
  rotate_left
  · show Act.put _ (some 11) _ = _
    simp only [Act.put, List.setIfInBounds_toArray, List.set_cons_zero, List.set_cons_succ, i64_w, i32_w]
    rfl
  refine pure_ (i := 7) (N := some 12) (v := ?_) (a' := ?_) #[true, true, true, true, true, true, true, true, false, false, false, false] rfl rfl (any_of HT_.out (by kernel_rfl)) (fun _ _ _ h => h) (Or.inl ⟨by rfl, ?_⟩) ?_ ?_
  rotate_left
  · intro w'
    go_simp
    with_reducible rfl
  rotate_left
  · simp only [Act.put, List.setIfInBounds_toArray, List.set_cons_zero, List.set_cons_succ, i64_w, i32_w]
    rfl
  refine one_ (i := 8) (N := some 13) #[true, true, true, true, true, true, true, true, true, false, false, false] rfl rfl (one_of HT_.out (by kernel_rfl)) (by decide) (fun K hK => ?_)
  refine value_ (w1 := ?_) (v := ?_) (by rfl) rfl ?_ ?_
  rotate_left 2
  · go_simp
    constructor
    · rfl
    · rfl
  refine hK.out _ _ ⟨(blk_cell (blk_alloc HP2.out _) 0).trans rfl, (blk_cell (blk_alloc HG2.out _) 0).trans rfl⟩ (fun hHeld => ?_)
  clear hK K
  refine norm_ (a' := ?_) ?_ ?_
  rotate_left
  · show Act.put _ (some 13) _ = _
    simp only [Act.put, List.setIfInBounds_toArray, List.set_cons_zero, List.set_cons_succ, i64_w, i32_w]
    rfl
  refine one_ (i := 9) (N := some 14) #[true, true, true, true, true, true, true, true, true, true, false, false] rfl rfl (one_of HT_.out (by kernel_rfl)) (by decide) (fun K hK => ?_)
  refine Kd.R_append_step (Kd.raw 6) (w0 := w) B (by rfl) (.tmp 8) (.tmp 13) 51 54 (.agg #[.int .i64 0, .int .i64 0, .int .u8 0, .int .i64 0, .slice none 0 0, .slice none 0 0]) 80 rfl Tryd.underlying51 info54 rfl (by decide) (by omega) (.slice A xs.length c) xs [.int .i64 2, .int .i64 0, .int .u8 0, .int .i64 cm, .slice Ai 1 ci, .slice none 0 0] [.int .i64 2, .int .i64 0, .int .u8 0, .int .i64 cm, .slice Ai 1 ci, .slice none 0 0] (fun _ => True) (fun _ => False) rfl rfl ?aP (fun _ hk => hk.elim) ?aF ?aO ?aB ?aS ?aL ?_
  (case aP => exact ⟨rfl, rfl, fun u hu => by simp at hu; rcases hu with rfl | rfl | rfl | rfl | rfl | rfl <;> rfl⟩)
  (case aF => exact (fun _ _ => trivial))
  (case aO => exact HR2.out)
  (case aB => exact HBL2.out)
  (case aS => exact HBS2.out)
  (case aL => have := hx; omega)
  intro v1 w1 ho hb1 hg1 hat
  rw [← HY.out] at ho
  obtain ⟨A1, c1, e1⟩ := Kd.R_slice ho
  subst e1
  have HO1 := Aside0.mk ho
  have HB1 := Aside0.mk hb1
  have BK1 := Aside0.mk (blk_grown HG2.out hg1 hne)
  have BP1 := Aside0.mk (blk_grown HP2.out hg1 (hty gb _ _ HP.out (by decide)))
  have FT1 := Aside0.mk (show FarT w w1 from fun k cc t hk h54 h51 => (hg1.block k (blk_lt ((HDW.out k (blk_lt hk)).trans hk)) (fun e => hty k cc t hk h54 e)).trans ((HDW.out k (blk_lt hk)).trans hk))
  clear ho hb1 hg1 hat
  have hc1 : w1.cell? ⟨go, 0, none⟩ = some (.slice A xs.length c) := (blk_cell BK1.out 0).trans rfl
  have hf1 := blk_frozen BK1.out 0
  refine hK.out _ _ ⟨(blk_cell BP1.out 0).trans rfl, hc1⟩ (fun hHeld => ?_)
  clear hK K
  refine norm_ (a' := ?_) ?_ ?_
  rotate_left
  · show Act.put _ (some 14) _ = _
    simp only [Act.put, List.setIfInBounds_toArray, List.set_cons_zero, List.set_cons_succ, i64_w, i32_w]
    rfl
  refine pure_ (i := 10) (N := some 15) (v := ?_) (a' := ?_) #[true, true, true, true, true, true, true, true, true, true, true, false] rfl rfl (any_of HT_.out (by kernel_rfl)) (fun _ _ _ h => h) (Or.inl ⟨by rfl, ?_⟩) ?_ ?_
  rotate_left
  · intro w'
    go_simp
    with_reducible rfl
  rotate_left
  · simp only [Act.put, List.setIfInBounds_toArray, List.set_cons_zero, List.set_cons_succ, i64_w, i32_w]
    rfl
  refine last_ (i := 11) (N := none) #[true, true, true, true, true, true, true, true, true, true, true, true] rfl rfl (one_of HT_.out (by kernel_rfl)) (by decide) (fun K hK => ?_)
  refine skip_ (w1 := ?_) (by rfl) rfl ?_ ?_
  rotate_left
  · go_simp
    with_reducible rfl
  refine hK.out _ _ ?_
  clear hK K
  refine done_ (done_of HT_.out (by kernel_rfl)) ?_
  go_end0
  exact ⟨rfl, ⟨Ai, ci, ⟨_, blk_set BK1.out 0 _, by rw [← HY.out]; exact Kd.R_set HO1.out BK1.out (by decide) 0 _⟩⟩, HB1.out.setCell hB _, fun k cc t hk h54 h51 => (Below.heap_setCell _ ⟨go, 0, none⟩ _ k (fun e => by subst e; rw [HG.out] at hk; simp at hk; exact h51 hk.2.symm)).trans (FT1.out k cc t hk h54 h51)⟩

end Go.Proofs.YtmpmfdghdaofhaaDoor.Ma
