/- The law FnGenerated: the table that is generated is, for each of the 15 states and 256 bytes, the parser's own (one pass over the table's text), and the law's walk. -/
import Derived.Test.YtmpmfdghdaofhaaDoorGenM
import Derived.Test.YtmpmfdghdaofhaaDoorTransM
namespace Go.Proofs.YtmpmfdghdaofhaaDoor.Gen
set_option linter.unusedVariables false
set_option linter.unusedSimpArgs false
open Go Go.RowKit Go.Proofs.YtmpmfdghdaofhaaDoor.PG Go.Proofs.YtmpmfdghdaofhaaDoor.Ma Go.Proofs.YtmpmfdghdaofhaaDoorW.PrintWords Go.Proofs.YtmpmfdghdaofhaaDoorW.PrintLast Go.Proofs.YtmpmfdghdaofhaaDoorW.PrintMore

theorem look_f (s c : Int) : ∀ U : List Up, look U s c = look (U.filter fun u => decide (u.1 = s)) s c
  | [] => rfl
  | u :: l => by
    have ih := look_f s c l
    have e1 : look (u :: l) s c = if u.1 = s ∧ u.2.1 ≤ c ∧ c ≤ u.2.2.1 then u.2.2.2 else look l s c := rfl
    rw [e1, List.filter_cons]
    by_cases h : u.1 = s
    · rw [if_pos (show decide (u.1 = s) = true from decide_eq_true h)]
      have e2 : look (u :: l.filter fun u => decide (u.1 = s)) s c = if u.1 = s ∧ u.2.1 ≤ c ∧ c ≤ u.2.2.1 then u.2.2.2 else look (l.filter fun u => decide (u.1 = s)) s c := rfl
      rw [e2, ih]
    · rw [if_neg (show ¬ (u.1 = s ∧ u.2.1 ≤ c ∧ c ≤ u.2.2.1) from fun hh => h hh.1), if_neg (show ¬ decide (u.1 = s) = true by simpa using h)]
      exact ih

noncomputable def chkR (F : List Up) (s : Int) : Nat → List UInt8 → Bool
  | _, [] => true
  | c, b :: l => decide (look F s (c : Int) = (b.toNat : Int)) && chkR F s (c + 1) l
theorem chkR_at (F : List Up) (s : Int) : ∀ (l : List UInt8) (i k : Nat) (b : UInt8), chkR F s i l = true → l[k]? = some b → look F s ((i + k : Nat) : Int) = (b.toNat : Int) := by
  intro l
  induction l with
  | nil => intro i k b _ h; simp at h
  | cons x l ih =>
    intro i k b hc h
    simp only [chkR, Bool.and_eq_true, decide_eq_true_eq] at hc
    cases k with
    | zero =>
      simp only [List.getElem?_cons_zero, Option.some.injEq] at h
      subst h
      exact hc.1
    | succ k =>
      have := ih (i + 1) k b hc.2 (by simpa using h)
      rwa [show i + 1 + k = i + (k + 1) by omega] at this
set_option maxRecDepth 100000 in
theorem chk_gen : ∀ s : Fin 15, chkR (gen.filter fun u => decide (u.1 = ((s.val : Nat) : Int))) ((s.val : Nat) : Int) 0 ((zz.data.toList.drop (s.val * 256)).take 256) = true := by decide +kernel
set_option maxRecDepth 100000 in
theorem gen_ok : ∀ u ∈ gen, okU u := by decide +kernel

set_option maxRecDepth 100000 in
theorem gen_ent (st c : Int) (h0 : 0 ≤ st) (h1 : st < 15) (h2 : 0 ≤ c) (h3 : c < 256) : look gen st c = ent st c := by
  obtain ⟨s, rfl⟩ := Int.eq_ofNat_of_zero_le h0
  obtain ⟨k, rfl⟩ := Int.eq_ofNat_of_zero_le h2
  have hlt : s * 256 + k < zz.data.toList.length := by
    rw [Array.length_toList]
    show _ < zz.size
    rw [zz_size]
    omega
  have hg : ((zz.data.toList.drop (s * 256)).take 256)[k]? = some (zz.data.toList[s * 256 + k]'hlt) := by
    rw [List.getElem?_take, if_pos (by omega), List.getElem?_drop, List.getElem?_eq_getElem hlt]
  have hcs : ∀ s : Nat, s < 15 → chkR (gen.filter fun u => decide (u.1 = (s : Int))) (s : Int) 0 ((zz.data.toList.drop (s * 256)).take 256) = true := fun s hs => chk_gen ⟨s, hs⟩
  have hc := hcs s (by omega)
  generalize (zz.data.toList.drop (s * 256)).take 256 = R at hc hg
  have h := chkR_at _ _ R 0 k _ hc hg
  rw [Nat.zero_add] at h
  rw [look_f]
  refine h.trans ?_
  unfold ent
  rw [List.getD_eq_getElem?_getD, show ((s : Int) * 256 + (k : Int)).toNat = s * 256 + k by omega, List.getElem?_eq_getElem hlt]
  rfl

theorem f_tr (st c : Int) (h0 : 0 ≤ st) (h1 : st < 15) (h2 : 0 ≤ c) (h3 : c < 256) : parser_TransitionTable_Transition.f (tab gen) st c = some (nx st c, ac st c) := by
  have hx := ix_lt h0 (show st ≤ 15 by omega) h2 h3
  have hl := tab_look st c h0 (by omega) h2 h3 gen gen_ok
  rw [gen_ent st c h0 h1 h2 h3] at hl
  unfold ix at hx hl
  unfold parser_TransitionTable_Transition.f
  rw [if_pos hx.1, if_pos (by rw [tab_len]; exact hx.2)]
  have hr : rd (tab gen) (Go.bits .or .i64 (wrap64 ((wrap64 st) * 256)) (wrap64 c)) = ent st c := hl
  rw [hr]
  rfl

set_option maxHeartbeats 8000000 in
set_option maxRecDepth 100000 in
theorem igen (st c : Int) (h0 : 0 ≤ st) (h1 : st < 15) (h2 : 0 ≤ c) (h3 : c < 256) (w : World) :
    Calls Tryd.prog 10 #[.int .i64 st, .int .i64 c] w fun e w' => e = .returned (.tuple #[.int .i64 (nx st c), .int .i64 (ac st c)]) ∧ Below w.heap.size w w' := by
  have t1 : decide (st < 0) = false := decide_eq_false (by omega)
  have t2 : decide (14 < st) = false := decide_eq_false (by omega)
  have t3 : decide (c < 0) = false := decide_eq_false (by omega)
  have t4 : decide (255 < c) = false := decide_eq_false (by omega)
  have m1 : st % 256 = st := by omega
  have m2 : c % 256 = c := by omega
  obtain ⟨T, HT, H⟩ : ∃ T : List Int, Aside0 (T = tab gen) ∧ Aside0 (parser_TransitionTable_Transition.f T st c = some (nx st c, ac st c)) := ⟨tab gen, ⟨rfl⟩, ⟨f_tr st c h0 h1 h2 h3⟩⟩
  clear h0 h1 h2 h3
  have y1 := nx_wrap st c
  have y2 := ac_wrap st c
  go_enter Tryd.func10, Tryd.ntmps10
  go_wp2_with fail
  refine (generate _).mono ?_
  rintro e w1 ⟨v, rfl, hs⟩
  have hR := hs.r
  rw [← HT.out] at hR
  obtain ⟨A, cp, rfl⟩ := Kd.R_slice hR
  have HR := Aside0.mk hR
  have HB := Aside0.mk hs.b
  clear hs hR
  go_wp2_with fail
  refine (parser_TransitionTable_Transition.calls A cp T st c _ _ _ (Kd.R_reads' HR.out).2.2 (Kd.R_reads' HR.out).2.1 H.out).mono ?_
  rintro e w2 ⟨rfl, hb2⟩
  go_wp2
  go_ret2
  exact ⟨by rw [y1, y2]; rfl, below_step HB.out hb2.below⟩

set_option maxHeartbeats 8000000 in
set_option maxRecDepth 100000 in
theorem walkG (a0 a1 : Int) (w : World) (w0 : (Lit.int .u8 a0).wf = true) (w1 : (Lit.int .u8 a1).wf = true) :
    Calls Tryd.prog 4 #[.int .u8 a0, .int .u8 a1] w fun e w' => e = .returned (.bool true) ∧ Below w.heap.size w w' := by
  have m0 : IntKind.u8.min = 0 := rfl
  have m1 : IntKind.u8.max = 255 := rfl
  have b0 : 0 ≤ a0 ∧ a0 < 256 := by simp [Lit.wf, m0, m1] at w0; omega
  have b1 : 0 ≤ a1 ∧ a1 < 256 := by simp [Lit.wf, m0, m1] at w1; omega
  clear m0 m1
  clear w0 w1
  have e1 : wrap64 (a0.tmod 15) = a0 % 15 := by
    rw [Int.tmod_eq_emod_of_nonneg b0.1]
    unfold wrap64
    omega
  have e2 : wrap64 a1 = a1 := by
    unfold wrap64
    omega
  obtain ⟨n, a, h1, h2⟩ : ∃ n a : Int, (∀ w, Calls Tryd.prog 7 #[.int .i64 (wrap64 (a0.tmod 15)), .int .i64 (wrap64 a1)] w fun e w' => e = .returned (.tuple #[.int .i64 n, .int .i64 a]) ∧ Below w.heap.size w w') ∧ (∀ w, Calls Tryd.prog 10 #[.int .i64 (wrap64 (a0.tmod 15)), .int .i64 (wrap64 a1)] w fun e w' => e = .returned (.tuple #[.int .i64 n, .int .i64 a]) ∧ Below w.heap.size w w') := by
    rw [e1, e2]
    exact ⟨_, _, itrans (a0 % 15) a1 (by omega) (by omega) b1.1 b1.2, igen (a0 % 15) a1 (by omega) (by omega) b1.1 b1.2⟩
  have H1 := Aside0.mk h1
  have H2 := Aside0.mk h2
  clear b0 b1 e1 e2 h1 h2
  go_enter Tryd.func4, Tryd.ntmps4
  go_wp2_with fail
  refine (H1.out _).mono ?_
  rintro e w1 ⟨rfl, hb1⟩
  go_wp2_with fail
  refine (H2.out _).mono ?_
  rintro e w2 ⟨rfl, hb2⟩
  go_wp2_with fail
  refine (awake_ _).mono ?_
  rintro e w3 ⟨rfl, hb3⟩
  go_wp2
  go_ret
  exact ⟨rfl, below_step (below_step hb1 hb2) hb3⟩

end Go.Proofs.YtmpmfdghdaofhaaDoor.Gen
