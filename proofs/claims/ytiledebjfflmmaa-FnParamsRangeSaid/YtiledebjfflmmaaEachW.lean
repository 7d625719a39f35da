/- FnParamsEach, FnParamsRange: the two functions that hand over a closure (impl.EachOf, impl.RangeOf), by hand: the closures by contracts of their own. -/
import Derived.Test.YtiledebjfflmmaaPTx1
import Derived.Test.YtiledebjfflmmaaPEx0
import Derived.OneCell
namespace Go.Proofs.Ytiledebjfflmmaa.Ea
set_option linter.unusedVariables false
set_option linter.unusedSimpArgs false
open Go Go.RowKit Go.Proofs.YtiledebjfflmmaaW.PrintWords Go.Proofs.YtiledebjfflmmaaW.PrintLast Go.Proofs.YtiledebjfflmmaaW.PrintMore Go.Proofs.Ytiledebjfflmmaa.PE

theorem info27 : (Try.prog.info? 27).map (fun i => (i.zero, i.size, i.bytes)) = some (some (.agg #[.int .i64 0, .int .i64 0, .bool false]), 3, 24) := by kernel_rfl
theorem info3 : (Try.prog.info? 3).map (fun i => (i.zero, i.size, i.bytes)) = some (some (.int .i64 0), 1, 8) := by kernel_rfl

/-- A call of a function value: a closure's captured variables stand behind its arguments. -/
theorem goesV_ {P : Program} {ops : Array Oper} {Q : Exit → Act → World → Prop} {oi : Oper} {N : Option Tmp} {a : Act} {w : World} {K : Act → World → Prop} {f : FuncId} {fn : Func} {c : Operand} {cap : Array Value} {ar : Array Operand} {ts : Array TypeId} (hf : P.funcs[f]? = some fn) (hname : (fn.name == "runtime.NumGoroutine") = false) (hb : fn.body.isSome = true) (args : Array Value)
    (hw : Region.wanted oi (yielded ops a.tmps) = true) (hN : oi.dst = N) (hop : oi.op = .call { callee := .value c, args := ar, argTypes := ts }) (hc : a.eval c = .func (.func f) #[] cap) (hargs : ar.map a.eval ++ cap = args)
    (h : Calls P f args w fun e w' => ∃ v, e = .returned v ∧ K (a.put N v) w') : if Region.wanted oi (yielded ops a.tmps) = true then Oper.wp P oi a w K Q else K (a.put N undef) w := by
  refine call_ f args hw hN ?_ h
  have he := enters_ hf hname hb args w
  unfold execOp
  simp [hop, resolve, Deferred.ofValue, invoke, hc, hargs, he]

/-- The captured variable: a block of one cell that holds the row of what was told so far. -/
def Box (W : World) (base g : Nat) (xs : List S27) : Prop := ∃ v, W.heap[g]? = some (.cells #[v] 23 (0, 0)) ∧ Kd.R k27 27 W base (fun _ => True) v xs
/-- What rows of numbers keep. -/
def Keeps (w w' : World) (base : Nat) : Prop := ∀ u us, Kd.R (Kd.int .i64) 42 w base (fun _ => True) u us → Kd.R (Kd.int .i64) 42 w' base (fun _ => True) u us

set_option maxHeartbeats 8000000 in
set_option maxRecDepth 100000 in
theorem clo (w : World) (base g : Nat) (hg : base ≤ g) (i p : Int) (more : Bool) (xs : List S27) (hx : xs.length ≤ 1000000) (hbase : base ≤ w.heap.size) (hbox : Box w base g xs) :
    Calls Try.prog 13 #[.int .i64 i, .int .i64 p, .bool more, .pointer (some ⟨g, 0, none⟩)] w fun e w' => e = .returned (.tuple #[]) ∧ Box w' base g (xs ++ [⟨i, p, more⟩]) ∧ Below base w w' ∧ Keeps w w' base := by
  obtain ⟨v, hb, hr⟩ := hbox
  obtain ⟨A, c, rfl⟩ := Kd.R_slice hr
  have hcell : w.cell? ⟨g, 0, none⟩ = some (.slice A xs.length c) := (blk_cell hb 0).trans rfl
  have hne : some g ≠ (.slice A xs.length c : Value).ownBlock := Kd.R_away (Kd.R_types hr hb (by decide)) (fun _ hk => hk.2)
  have HR := Aside0.mk hr
  have HB := Aside0.mk hb
  have HBL := Aside0.mk (Below.refl base w)
  clear hr hb
  obtain ⟨ys, hys⟩ : ∃ ys, ys = xs ++ [(⟨i, p, more⟩ : S27)] := ⟨_, rfl⟩
  rw [← hys]
  have HY := Aside0.mk hys
  clear hys
  go_enter Try.func13, Try.ntmps13
  go_wp2_with (first | ((with_reducible refine gate_builtin (b := .append) (xs := #[.tmp 7, .tmp 12]) rfl ?_); at_builtin; refine Kd.R_append k27 (w0 := w) base rfl (.tmp 7) (.tmp 12) 23 27 (.agg #[.int .i64 0, .int .i64 0, .bool false]) 24 rfl Try.underlying23 info27 rfl (by decide) (by omega) (.slice A xs.length c) xs (⟨i, p, more⟩ : S27) [.int .i64 i, .int .i64 p, .bool more] (fun _ => True) (fun _ => False) rfl rfl ?aP (fun _ hk => hk.elim) ?aF ?aO ?aB ?aS ?aL ?_; (case aP => exact k27_mkM _ _ _ (⟨i, p, more⟩ : S27)); (case aF => exact (fun _ _ => trivial)); (case aO => exact HR.out); (case aB => exact HBL.out); (case aS => exact hbase); (case aL => omega); intro v1 w1 ho hb1 hg1 hat; rw [← HY.out] at ho; obtain ⟨A1, c1, e1⟩ := Kd.R_slice ho; subst e1; have HO1 := Aside0.mk ho; have HB1 := Aside0.mk hb1; have HG1 := Aside0.mk hg1; have BK1 := Aside0.mk (blk_grown HB.out hg1 hne); clear ho hb1 hg1 hat; have hc1 : w1.cell? ⟨g, 0, none⟩ = some (.slice A xs.length c) := (blk_cell BK1.out 0).trans rfl; have hf1 := blk_frozen BK1.out 0))
  go_end0
  refine ⟨rfl, ⟨_, blk_set BK1.out 0 _, Kd.R_set HO1.out BK1.out (by decide) 0 _⟩, HB1.out.setCell hg _, fun u us h => Kd.R_set (Kd.R_over' h (Kd.R_typed HR.out) (by decide) HG1.out) BK1.out (by decide) 0 _⟩

/-- A parameter's value, or a default. -/
def pv (x d : Int) : Int := if (Go.bits .and .i64 x 2147483647) = 2147483647 then d else Go.bits .and .i64 x 2147483647
def hm (x : Int) : Bool := (Go.bits .and .i64 x (-2147483648)) != 0
theorem pv_f (x d : Int) : Go.Proofs.Ytiledebjfflmmaa.PT.xansi_Param_Param.f x d = some (pv x d) := by
  unfold Go.Proofs.Ytiledebjfflmmaa.PT.xansi_Param_Param.f pv
  split <;> rfl
def ents (d : Int) (l : List Int) (k : Nat) : List S27 := (List.range k).map fun (j : Nat) => (⟨(j : Int), pv (rd l (j : Int)) d, hm (rd l (j : Int))⟩ : S27)
theorem ents_len (d : Int) (l : List Int) (k : Nat) : (ents d l k).length = k := by simp [ents]
theorem ents_succ (d : Int) (l : List Int) (k : Nat) : ents d l (k + 1) = ents d l k ++ [⟨(k : Int), pv (rd l (k : Int)) d, hm (rd l (k : Int))⟩] := by
  simp [ents, List.range_succ]
theorem Box.drewN {W : World} {base g : Nat} {xs : List S27} (h : Box W base g xs) (n : Nat) : Box (W.drewN n) base g xs := by
  obtain ⟨v, h1, h2⟩ := h
  exact ⟨v, h1, Kd.R_drewN h2 n⟩
theorem Box.drew {W : World} {base g : Nat} {xs : List S27} (h : Box W base g xs) : Box W.drew base g xs := by
  obtain ⟨v, h1, h2⟩ := h
  exact ⟨v, h1, Kd.R_drew h2⟩

def T3 : Bool × List (List Nat × List Nat) := (true, [([], []), ([], []), ([], []), ([], []), ([2, 3], [2, 3]), ([4], [4]), ([], []), ([5, 6], [5, 6]), ([], []), ([], []), ([8, 9], [8, 9]), ([10], [10]), ([11, 7], [11]), ([0, 1, 7, 12, 12], [0, 1, 7, 12])])
def B3 : List Nat := [0, 0, 0, 0, 12, 28, 0, 124, 0, 0, 768, 1792, 4092, 8191]
theorem tab3 : rtab .any (opsOf Try.f12 3) = T3 := by kernel_rfl
theorem bits3 : waitsOk T3.2 B3 = true := by kernel_rfl

set_option maxHeartbeats 8000000 in
set_option maxRecDepth 100000 in
theorem each (w : World) (base g : Nat) (hg : base ≤ g) (A : Option Addr) (c : Nat) (l : List Int) (d : Int) (hl : l.length ≤ 100000) (hbase : base ≤ w.heap.size)
    (hp : Kd.R (Kd.int .i64) 42 w base (fun _ => True) (.slice A l.length c) l) (hbox : Box w base g []) :
    Calls Try.prog 12 #[.slice A l.length c, .int .i64 d, .func (.func 13) #[] #[.pointer (some ⟨g, 0, none⟩)]] w fun e w' => e = .returned (.tuple #[]) ∧ Box w' base g (ents d l l.length) ∧ Below base w w' := by
  have HP0 := Aside0.mk hp
  have HX0 := Aside0.mk hbox
  clear hp hbox
  go_enter Try.func12, Try.ntmps12
  go_wp2
  go_loopw [9] (fun v wr => ∃ (J : Int) (k : Nat), v = .int .i64 J ∧ Aside0 (J = (k : Int)) ∧ Aside0 (k ≤ l.length) ∧ Aside0 (Kd.R (Kd.int .i64) 42 wr base (fun _ => True) (.slice A l.length c) l) ∧ Aside0 (Box wr base g (ents d l k)) ∧ Aside0 (Below base w wr)) (fun v _ => l.length - (intOf v).toNat)
  case atStart => exact ⟨0, 0, rfl, ⟨rfl⟩, ⟨Nat.zero_le _⟩, HP0, HX0, ⟨Below.refl _ _⟩⟩
  case round =>
    obtain ⟨J, k, rfl, HJ, HK, HP, HBX, HBL⟩ := hrel
    by_cases hlt : k < l.length
    · have hj := HJ.out
      have tlt : decide (J < (l.length : Int)) = true := decide_eq_true (by omega)
      have p0 : 0 ≤ J := by omega
      have q0 : J < (l.length : Int) := by omega
      have hwr : wrap64 (J + 1) = J + 1 := by unfold wrap64; omega
      clear hj
      obtain ⟨ad, e0, hx⟩ := Kd.at_int (Kd.R_reads' HP.out).2.2 J p0 q0
      cases e0
      replace p0 := eq_true p0
      replace q0 := eq_true q0
      go_wp2_with fail
      refine start_ (n := 14) (S := fun w' => w'.cell? (ad.add J.toNat) = some (.int .i64 (rd l J))) (ds := [13]) #[false, false, false, false, false, false, false, false, false, false, false, false, false, false] (by kernel_rfl) rfl rfl hx (fun hHeld => ?_)
      refine with_tabW tab3 bits3 (fun HT_ HW_ => ?_)
      refine pure_ (i := 0) (N := some 12) (v := ?_) (a' := ?_) #[true, false, false, false, false, false, false, false, false, false, false, false, false, false] rfl rfl (any_of HT_.out (by kernel_rfl)) (fun _ _ _ h => h) (Or.inl ⟨by rfl, ?_⟩) ?_ ?_
      rotate_left
      · intro w'
        go_simp
        with_reducible rfl
      rotate_left
      · simp only [Act.put, List.setIfInBounds_toArray, List.set_cons_zero, List.set_cons_succ, i64_w, i32_w]
        rfl
      refine pure_ (i := 1) (N := some 13) (v := ?_) (a' := ?_) #[true, true, false, false, false, false, false, false, false, false, false, false, false, false] rfl rfl (any_of HT_.out (by kernel_rfl)) (fun _ _ _ h => h) (Or.inl ⟨by rfl, ?_⟩) ?_ ?_
      rotate_left
      · intro w'
        go_simp
        with_reducible rfl
      rotate_left
      · simp only [Act.put, List.setIfInBounds_toArray, List.set_cons_zero, List.set_cons_succ, i64_w, i32_w]
        rfl
      refine pure_ (i := 2) (N := some 14) (v := ?_) (a' := ?_) #[true, true, true, false, false, false, false, false, false, false, false, false, false, false] rfl rfl (any_of HT_.out (by kernel_rfl)) (fun _ _ _ h => h) (Or.inl ⟨by rfl, ?_⟩) ?_ ?_
      rotate_left
      · intro w'
        go_simp
        with_reducible rfl
      rotate_left
      · simp only [Act.put, List.setIfInBounds_toArray, List.set_cons_zero, List.set_cons_succ, i64_w, i32_w]
        rfl
      refine pure_ (i := 3) (N := some 15) (v := ?_) (a' := ?_) #[true, true, true, true, false, false, false, false, false, false, false, false, false, false] rfl rfl (any_of HT_.out (by kernel_rfl)) (fun _ _ _ h => h) (Or.inl ⟨by rfl, ?_⟩) ?_ ?_
      rotate_left
      · intro w'
        go_simp
        with_reducible rfl
      rotate_left
      · simp only [Act.put, List.setIfInBounds_toArray, List.set_cons_zero, List.set_cons_succ, i64_w, i32_w]
        rfl
      refine pure_ (i := 4) (N := some 16) (v := ?_) (a' := ?_) #[true, true, true, true, true, false, false, false, false, false, false, false, false, false] rfl rfl (any_of HT_.out (by kernel_rfl)) (fun _ _ _ h => h) (Or.inl ⟨by rfl, ?_⟩) ?_ ?_
      rotate_left
      · intro w'
        go_simp
        with_reducible rfl
      rotate_left
      · simp only [Act.put, List.setIfInBounds_toArray, List.set_cons_zero, List.set_cons_succ, i64_w, i32_w]
        rfl
      refine pure_ (i := 6) (N := some 18) (v := ?_) (a' := ?_) #[true, true, true, true, true, false, true, false, false, false, false, false, false, false] rfl rfl (any_of HT_.out (by kernel_rfl)) (fun _ _ _ h => h) (Or.inl ⟨by rfl, ?_⟩) ?_ ?_
      rotate_left
      · intro w'
        go_simp
        with_reducible rfl
      rotate_left
      · simp only [Act.put, List.setIfInBounds_toArray, List.set_cons_zero, List.set_cons_succ, i64_w, i32_w]
        rfl
      refine pure_ (i := 8) (N := some 20) (v := ?_) (a' := ?_) #[true, true, true, true, true, false, true, false, true, false, false, false, false, false] rfl rfl (any_of HT_.out (by kernel_rfl)) (fun _ _ _ h => h) (Or.inl ⟨by rfl, ?_⟩) ?_ ?_
      rotate_left
      · intro w'
        go_simp
        with_reducible rfl
      rotate_left
      · simp only [Act.put, List.setIfInBounds_toArray, List.set_cons_zero, List.set_cons_succ, i64_w, i32_w]
        rfl
      refine pure_ (i := 9) (N := some 21) (v := ?_) (a' := ?_) #[true, true, true, true, true, false, true, false, true, true, false, false, false, false] rfl rfl (any_of HT_.out (by kernel_rfl)) (fun _ _ _ h => h) (Or.inl ⟨by rfl, ?_⟩) ?_ ?_
      rotate_left
      · intro w'
        go_simp
        with_reducible rfl
      rotate_left
      · simp only [Act.put, List.setIfInBounds_toArray, List.set_cons_zero, List.set_cons_succ, i64_w, i32_w]
        rfl
      refine pure_ (i := 10) (N := some 22) (v := ?_) (a' := ?_) #[true, true, true, true, true, false, true, false, true, true, true, false, false, false] rfl rfl (any_of HT_.out (by kernel_rfl)) (fun _ _ _ h => h) (Or.inl ⟨by rfl, ?_⟩) ?_ ?_
      rotate_left
      · intro w'
        go_simp
        with_reducible rfl
      rotate_left
      · simp only [Act.put, List.setIfInBounds_toArray, List.set_cons_zero, List.set_cons_succ, i64_w, i32_w]
        rfl
      refine take_ (i := 5) (N := some 17) (v := ?_) (a' := ?_) #[true, true, true, true, true, true, true, false, true, true, true, false, false, false] rfl rfl (take_ofW HT_.out HW_.out (by kernel_rfl)) (fun _ _ _ h => h) (Or.inl ⟨by rfl, ?_⟩) hHeld ?_ ?_
      rotate_left
      · rintro w' s0
        go_simp
        with_reducible rfl
      rotate_left
      · simp only [Act.put, List.setIfInBounds_toArray, List.set_cons_zero, List.set_cons_succ, i64_w, i32_w]
        rfl
      refine take_ (i := 11) (N := some 23) (v := ?_) (a' := ?_) #[true, true, true, true, true, true, true, false, true, true, true, true, false, false] rfl rfl (take_ofW HT_.out HW_.out (by kernel_rfl)) (fun _ _ _ h => h) (Or.inl ⟨by rfl, ?_⟩) hHeld ?_ ?_
      rotate_left
      · rintro w' s0
        go_simp
        with_reducible rfl
      rotate_left
      · simp only [Act.put, List.setIfInBounds_toArray, List.set_cons_zero, List.set_cons_succ, i64_w, i32_w]
        rfl
      refine one_ (i := 7) (N := some 19) #[true, true, true, true, true, true, true, true, true, true, true, true, false, false] rfl rfl (one_of HT_.out (by kernel_rfl)) (by decide) (fun K hK => ?_)
      refine goes_ Try.func18 (by kernel_rfl) rfl #[.int .i64 (rd l J), .int .i64 d] (by rfl) rfl rfl (by (try simp only [List.map_toArray, List.map_cons, List.map_nil]); first | done | rfl | (simp [Act.eval, *]; done)) ?_
      refine (Go.Proofs.Ytiledebjfflmmaa.PT.xansi_Param_Param.calls (rd l J) d (pv (rd l J) d) _ (pv_f _ _)).mono ?_
      rintro e w' ⟨rfl, ⟨nd, rfl⟩⟩
      refine ⟨_, rfl, ?_⟩
      refine hK.out _ _ hHeld (fun hHeld => ?_)
      clear hK K
      refine norm_ (a' := ?_) ?_ ?_
      rotate_left
      · show Act.put _ (some 19) _ = _
        simp only [Act.put, List.setIfInBounds_toArray, List.set_cons_zero, List.set_cons_succ, i64_w, i32_w]
        rfl
      refine one_ (i := 12) (N := some 24) #[true, true, true, true, true, true, true, true, true, true, true, true, true, false] rfl rfl (one_of HT_.out (by kernel_rfl)) (by decide) (fun K hK => ?_)
      refine goes_ Try.func19 (by kernel_rfl) rfl #[.int .i64 (rd l J)] (by rfl) rfl rfl (by (try simp only [List.map_toArray, List.map_cons, List.map_nil]); first | done | rfl | (simp [Act.eval, *]; done)) ?_
      refine (Go.Proofs.Ytiledebjfflmmaa.PT.xansi_Param_HasMore.calls (rd l J) (hm (rd l J)) _ rfl).mono ?_
      rintro e w' ⟨rfl, ⟨nd, rfl⟩⟩
      refine ⟨_, rfl, ?_⟩
      refine hK.out _ _ hHeld (fun hHeld => ?_)
      clear hK K
      refine norm_ (a' := ?_) ?_ ?_
      rotate_left
      · show Act.put _ (some 24) _ = _
        simp only [Act.put, List.setIfInBounds_toArray, List.set_cons_zero, List.set_cons_succ, i64_w, i32_w]
        rfl
      refine last_ (i := 13) (N := some 25) #[true, true, true, true, true, true, true, true, true, true, true, true, true, true] rfl rfl (one_of HT_.out (by kernel_rfl)) (by decide) (fun K hK => ?_)
      refine goesV_ Try.func13 (by kernel_rfl) rfl #[.int .i64 J, .int .i64 (pv (rd l J) d), .bool (hm (rd l J)), .pointer (some ⟨g, 0, none⟩)] (by rfl) rfl rfl (by rfl) (by first | rfl | (simp [Act.eval, *]; done)) ?_
      refine (clo _ base g hg J (pv (rd l J) d) (hm (rd l J)) (ents d l k) (by rw [ents_len]; omega) (by have := HBL.out.size; simp only [World.drewN, World.drew]; omega) (Box.drewN (Box.drewN (Box.drew HBX.out) _) _)).mono ?_
      rintro e w2 ⟨rfl, hbx2, hbl2, hkp⟩
      refine ⟨_, rfl, ?_⟩
      refine hK.out _ _ ?_
      clear hK K
      refine norm_ (a' := ?_) ?_ ?_
      rotate_left
      · show Act.put _ (some 25) _ = _
        simp only [Act.put, List.setIfInBounds_toArray, List.set_cons_zero, List.set_cons_succ, i64_w, i32_w]
        rfl
      refine done_ (done_of HT_.out (by kernel_rfl)) ?_
      go_wp2
      go_roundw
      case rel => exact ⟨wrap64 (J + 1), k + 1, rfl, ⟨by rw [hwr, HJ.out]; rfl⟩, ⟨hlt⟩, ⟨hkp _ _ (Kd.R_drewN (Kd.R_drewN (Kd.R_drew HP.out) _) _)⟩, ⟨by rw [ents_succ, ← HJ.out]; exact hbx2⟩, ⟨(pw_below_drewN (pw_below_drewN HBL.out.drew _) _).trans hbl2⟩⟩
      case measure =>
        have := HJ.out
        rw [hwr]
        simp [intOf]
        omega
    · have hj := HJ.out
      have tlt : decide (J < (l.length : Int)) = false := decide_eq_false (by omega)
      obtain rfl : k = l.length := by have := HK.out; omega
      clear hj
      go_wp2
      go_end0
      exact ⟨rfl, HBX.out, HBL.out⟩

end Go.Proofs.Ytiledebjfflmmaa.Ea
