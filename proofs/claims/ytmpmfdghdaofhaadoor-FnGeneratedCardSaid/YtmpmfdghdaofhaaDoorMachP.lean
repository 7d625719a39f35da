/- The closures of impl.listen that machineAwake reaches, by hand: each appends an event to what the captured pointer leads to. -/
import Derived.Test.YtmpmfdghdaofhaaDoorMachC
namespace Go.Proofs.YtmpmfdghdaofhaaDoor.Ma
set_option linter.unusedVariables false
set_option linter.unusedSimpArgs false
open Go Go.RowKit Go.Proofs.YtmpmfdghdaofhaaDoorW.PrintWords Go.Proofs.YtmpmfdghdaofhaaDoorW.PrintLast Go.Proofs.YtmpmfdghdaofhaaDoorW.PrintMore

theorem info54 : (Tryd.prog.info? 54).map (fun i => (i.zero, i.size, i.bytes)) = some (some (.agg #[.int .i64 0, .int .i64 0, .int .u8 0, .int .i64 0, .slice none 0 0, .slice none 0 0]), 6, 80) := by kernel_rfl
/-- The captured variable: a pointer to what holds the events. -/
def Ptr (W : World) (gb go : Nat) : Prop := W.heap[gb]? = some (.cells #[.pointer (some ⟨go, 0, none⟩)] 75 (0, 0))
/-- The events told so far, as cells. -/
def OutS (W : World) (B go : Nat) (xs : List (List Value)) : Prop := ∃ v, W.heap[go]? = some (.cells #[v] 51 (0, 0)) ∧ Kd.R (Kd.raw 6) 54 W B (fun _ => True) v xs
/-- Blocks of other types are as they were. -/
def FarT (w w' : World) : Prop := ∀ (k : Nat) (c : Array Value) (t : TypeId), w.heap[k]? = some (.cells c t (0, 0)) → t ≠ 54 → t ≠ 51 → w'.heap[k]? = some (.cells c t (0, 0))

def pr_T : Bool × List (List Nat × List Nat) := (true, [([], []), ([], []), ([1], [1]), ([2], [2]), ([], []), ([4], [4]), ([5], [5]), ([6], [6]), ([3, 7], [3, 7]), ([0, 0, 1, 2, 3, 4, 5, 6, 7, 8], [0]), ([9, 8, 8, 0, 1, 2, 3, 4, 5, 6, 7, 8], [8, 9])])
def pr_B : List Nat := [0, 0, 2, 6, 0, 16, 48, 112, 254, 511, 1023]
theorem pr__tab : rtab .any (opsOf Tryd.f58 0) = pr_T := by kernel_rfl
theorem pr__bits : waitsOk pr_T.2 pr_B = true := by kernel_rfl

set_option maxHeartbeats 8000000 in
set_option maxRecDepth 100000 in
theorem pr_ (w : World) (B gb go : Nat) (xs : List (List Value)) (b : Int) (hB : B ≤ go) (hx : xs.length ≤ 1000000) (hbase : B ≤ w.heap.size) (hptr : Ptr w gb go) (hout : OutS w B go xs) :
    Calls Tryd.prog 58 #[.int .i32 b, .pointer (some ⟨gb, 0, none⟩)] w fun e w' => e = .returned (.tuple #[]) ∧ OutS w' B go (xs ++ [[.int .i64 0, .int .i64 (wrap64 b), .int .u8 0, .int .i64 0, .slice none 0 0, .slice none 0 0]]) ∧ Below B w w' ∧ FarT w w' := by
  obtain ⟨v, hg, hr⟩ := hout
  obtain ⟨A, c, rfl⟩ := Kd.R_slice hr
  have hp : w.cell? ⟨gb, 0, none⟩ = some (.pointer (some ⟨go, 0, none⟩)) := (blk_cell hptr 0).trans rfl
  have ho : w.cell? ⟨go, 0, none⟩ = some (.slice A xs.length c) := (blk_cell hg 0).trans rfl
  have hne : some go ≠ (.slice A xs.length c : Value).ownBlock := Kd.R_away (Kd.R_types hr hg (by decide)) (fun _ hk => hk.2)
  have hty : ∀ (k : Nat) (cc : Array Value) (t : TypeId), w.heap[k]? = some (.cells cc t (0, 0)) → t ≠ 54 → some k ≠ (.slice A xs.length c : Value).ownBlock := by
    intro k cc t hk h54 e
    obtain ⟨cc', hk'⟩ := Kd.R_typed hr k e.symm
    rw [hk] at hk'
    simp at hk'
    exact h54 hk'.2
  obtain ⟨ys, hys⟩ : ∃ ys, ys = xs ++ [[.int .i64 0, .int .i64 (wrap64 b), .int .u8 0, .int .i64 0, .slice none 0 0, .slice none 0 0]] := ⟨_, rfl⟩
  rw [← hys]
  have HY := Aside0.mk hys
  clear hys
  have HR := Aside0.mk hr
  have HG := Aside0.mk hg
  have HP := Aside0.mk (show w.heap[gb]? = some (.cells #[.pointer (some ⟨go, 0, none⟩)] 75 (0, 0)) from hptr)
  have HBL := Aside0.mk (Below.refl B w)
  have HBS := Aside0.mk hbase
  clear hr hg hptr hbase
  go_enter Tryd.func58, Tryd.ntmps58
  refine start_ (n := 11) (S := (fun w' => w'.cell? ⟨gb, 0, none⟩ = some (.pointer (some ⟨go, 0, none⟩)) ∧ w'.cell? ⟨go, 0, none⟩ = some (.slice A xs.length c))) (ds := [10]) #[false, false, false, false, false, false, false, false, false, false, false] (by kernel_rfl) rfl rfl ⟨hp, ho⟩ (fun hHeld => ?_)
  refine with_tabW pr__tab pr__bits (fun HT_ HW_ => ?_)
  have HR2 := Aside0.mk (Kd.R_drew HR.out)
  have HBL2 := Aside0.mk HBL.out.drew
  have HG2 := Aside0.mk (show w.drew.heap[go]? = _ from HG.out)
  have HBS2 := Aside0.mk (show B ≤ w.drew.heap.size from HBS.out)
  have HP2 := Aside0.mk (show w.drew.heap[gb]? = _ from HP.out)
  have HDW := Aside0.mk (show ∀ k : Nat, k < w.heap.size → w.drew.heap[k]? = w.heap[k]? from fun _ _ => rfl)
  generalize w.drew = wd at HR2 HBL2 HG2 HP2 HBS2 HDW hHeld ⊢
  refine pure_ (i := 4) (N := some 7) (v := ?_) (a' := ?_) #[false, false, false, false, true, false, false, false, false, false, false] rfl rfl (any_of HT_.out (by kernel_rfl)) (fun _ _ _ h => h) (Or.inl ⟨by rfl, ?_⟩) ?_ ?_
  rotate_left
  · intro w'
    go_simp
    with_reducible rfl
  rotate_left
  · simp only [Act.put, List.setIfInBounds_toArray, List.set_cons_zero, List.set_cons_succ, i64_w, i32_w]
    rfl
  refine pure_ (i := 5) (N := some 8) (v := ?_) (a' := ?_) #[false, false, false, false, true, true, false, false, false, false, false] rfl rfl (any_of HT_.out (by kernel_rfl)) (fun _ _ _ h => h) (Or.inl ⟨by rfl, ?_⟩) ?_ ?_
  rotate_left
  · intro w'
    go_simp
    with_reducible rfl
  rotate_left
  · simp only [Act.put, List.setIfInBounds_toArray, List.set_cons_zero, List.set_cons_succ, i64_w, i32_w]
    rfl
  refine pure_ (i := 6) (N := some 9) (v := ?_) (a' := ?_) #[false, false, false, false, true, true, true, false, false, false, false] rfl rfl (any_of HT_.out (by kernel_rfl)) (fun _ _ _ h => h) (Or.inl ⟨by rfl, ?_⟩) ?_ ?_
  rotate_left
  · intro w'
    go_simp
    with_reducible rfl
  rotate_left
  · simp only [Act.put, List.setIfInBounds_toArray, List.set_cons_zero, List.set_cons_succ, i64_w, i32_w]
    rfl
  refine take_ (i := 0) (N := some 3) (v := ?_) (a' := ?_) #[true, false, false, false, true, true, true, false, false, false, false] rfl rfl (take_ofW HT_.out HW_.out (by kernel_rfl)) (fun _ _ _ h => h) (Or.inl ⟨by rfl, ?_⟩) hHeld ?_ ?_
  rotate_left
  · rintro w' ⟨s0, s1⟩
    go_simp
    with_reducible rfl
  rotate_left
  · simp only [Act.put, List.setIfInBounds_toArray, List.set_cons_zero, List.set_cons_succ, i64_w, i32_w]
    rfl
  refine take_ (i := 1) (N := some 4) (v := ?_) (a' := ?_) #[true, true, false, false, true, true, true, false, false, false, false] rfl rfl (take_ofW HT_.out HW_.out (by kernel_rfl)) (fun _ _ _ h => h) (Or.inl ⟨by rfl, ?_⟩) hHeld ?_ ?_
  rotate_left
  · rintro w' ⟨s0, s1⟩
    go_simp
    with_reducible rfl
  rotate_left
  · simp only [Act.put, List.setIfInBounds_toArray, List.set_cons_zero, List.set_cons_succ, i64_w, i32_w]
    rfl
  refine pure_ (i := 2) (N := some 5) (v := ?_) (a' := ?_) #[true, true, true, false, true, true, true, false, false, false, false] rfl rfl (any_of HT_.out (by kernel_rfl)) (fun _ _ _ h => h) (Or.inl ⟨by rfl, ?_⟩) ?_ ?_
  rotate_left
  · intro w'
    go_simp
    with_reducible rfl
  rotate_left
  · simp only [Act.put, List.setIfInBounds_toArray, List.set_cons_zero, List.set_cons_succ, i64_w, i32_w]
    rfl
  refine take_ (i := 3) (N := some 6) (v := ?_) (a' := ?_) #[true, true, true, true, true, true, true, false, false, false, false] rfl rfl (take_ofW HT_.out HW_.out (by kernel_rfl)) (fun _ _ _ h => h) (Or.inl ⟨by rfl, ?_⟩) hHeld ?_ ?_
  rotate_left
  · rintro w' ⟨s0, s1⟩
    go_simp
    with_reducible rfl
  rotate_left
  · simp only [Act.put, List.setIfInBounds_toArray, List.set_cons_zero, List.set_cons_succ, i64_w, i32_w]
    rfl
  refine one_ (i := 7) (N := some 10) #[true, true, true, true, true, true, true, true, false, false, false] rfl rfl (one_of HT_.out (by kernel_rfl)) (by decide) (fun K hK => ?_)
  refine value_ (w1 := ?_) (v := ?_) (by rfl) rfl ?_ ?_
  rotate_left 2
  · go_simp
    constructor
    · rfl
    · rfl
  refine hK.out _ _ ⟨(blk_cell (blk_alloc HP2.out _) 0).trans rfl, (blk_cell (blk_alloc HG2.out _) 0).trans rfl⟩ (fun hHeld => ?_)
  clear hK K
  refine norm_ (a' := ?_) ?_ ?_
  rotate_left
  · show Act.put _ (some 10) _ = _
    simp only [Act.put, List.setIfInBounds_toArray, List.set_cons_zero, List.set_cons_succ, i64_w, i32_w]
    rfl
  refine one_ (i := 8) (N := some 11) #[true, true, true, true, true, true, true, true, true, false, false] rfl rfl (one_of HT_.out (by kernel_rfl)) (by decide) (fun K hK => ?_)
  refine Kd.R_append_step (Kd.raw 6) (w0 := w) B (by rfl) (.tmp 6) (.tmp 10) 51 54 (.agg #[.int .i64 0, .int .i64 0, .int .u8 0, .int .i64 0, .slice none 0 0, .slice none 0 0]) 80 rfl Tryd.underlying51 info54 rfl (by decide) (by omega) (.slice A xs.length c) xs [.int .i64 0, .int .i64 (wrap64 b), .int .u8 0, .int .i64 0, .slice none 0 0, .slice none 0 0] [.int .i64 0, .int .i64 (wrap64 b), .int .u8 0, .int .i64 0, .slice none 0 0, .slice none 0 0] (fun _ => True) (fun _ => False) rfl rfl ?aP (fun _ hk => hk.elim) ?aF ?aO ?aB ?aS ?aL ?_
  (case aP => exact ⟨rfl, rfl, fun u hu => by simp at hu; rcases hu with rfl | rfl | rfl | rfl | rfl | rfl <;> rfl⟩)
  (case aF => exact (fun _ _ => trivial))
  (case aO => exact HR2.out)
  (case aB => exact HBL2.out)
  (case aS => exact HBS2.out)
  (case aL => have := hx; omega)
  intro v1 w1 ho hb1 hg1 hat
  rw [← HY.out] at ho
  obtain ⟨A1, c1, e1⟩ := Kd.R_slice ho
  subst e1
  have HO1 := Aside0.mk ho
  have HB1 := Aside0.mk hb1
  have BK1 := Aside0.mk (blk_grown HG2.out hg1 hne)
  have BP1 := Aside0.mk (blk_grown HP2.out hg1 (hty gb _ _ HP.out (by decide)))
  have FT1 := Aside0.mk (show FarT w w1 from fun k cc t hk h54 h51 => (hg1.block k (blk_lt ((HDW.out k (blk_lt hk)).trans hk)) (fun e => hty k cc t hk h54 e)).trans ((HDW.out k (blk_lt hk)).trans hk))
  clear ho hb1 hg1 hat
  have hc1 : w1.cell? ⟨go, 0, none⟩ = some (.slice A xs.length c) := (blk_cell BK1.out 0).trans rfl
  have hf1 := blk_frozen BK1.out 0
  refine hK.out _ _ ⟨(blk_cell BP1.out 0).trans rfl, hc1⟩ (fun hHeld => ?_)
  clear hK K
  refine norm_ (a' := ?_) ?_ ?_
  rotate_left
  · show Act.put _ (some 11) _ = _
    simp only [Act.put, List.setIfInBounds_toArray, List.set_cons_zero, List.set_cons_succ, i64_w, i32_w]
    rfl
  refine pure_ (i := 9) (N := some 12) (v := ?_) (a' := ?_) #[true, true, true, true, true, true, true, true, true, true, false] rfl rfl (any_of HT_.out (by kernel_rfl)) (fun _ _ _ h => h) (Or.inl ⟨by rfl, ?_⟩) ?_ ?_
  rotate_left
  · intro w'
    go_simp
    with_reducible rfl
  rotate_left
  · simp only [Act.put, List.setIfInBounds_toArray, List.set_cons_zero, List.set_cons_succ, i64_w, i32_w]
    rfl
  refine last_ (i := 10) (N := none) #[true, true, true, true, true, true, true, true, true, true, true] rfl rfl (one_of HT_.out (by kernel_rfl)) (by decide) (fun K hK => ?_)
  refine skip_ (w1 := ?_) (by rfl) rfl ?_ ?_
  rotate_left
  · go_simp
    with_reducible rfl
  refine hK.out _ _ ?_
  clear hK K
  refine done_ (done_of HT_.out (by kernel_rfl)) ?_
  go_end0
  exact ⟨rfl, ⟨_, blk_set BK1.out 0 _, Kd.R_set HO1.out BK1.out (by decide) 0 _⟩, HB1.out.setCell hB _, fun k cc t hk h54 h51 => (Below.heap_setCell _ ⟨go, 0, none⟩ _ k (fun e => by subst e; rw [HG.out] at hk; simp at hk; exact h51 hk.2.symm)).trans (FT1.out k cc t hk h54 h51)⟩

end Go.Proofs.YtmpmfdghdaofhaaDoor.Ma
