/- FnParamsRange: the closure that tells whether there is room for more, and parser.Range that calls it: by hand. -/
import Derived.Test.YtiledebjfflmmaaEachW
namespace Go.Proofs.Ytiledebjfflmmaa.Ea
set_option linter.unusedVariables false
set_option linter.unusedSimpArgs false
open Go Go.RowKit Go.Proofs.YtiledebjfflmmaaW.PrintWords Go.Proofs.YtiledebjfflmmaaW.PrintLast Go.Proofs.YtiledebjfflmmaaW.PrintMore Go.Proofs.Ytiledebjfflmmaa.PE

def Keep3 (w w' : World) (base : Nat) : Prop := ∀ u us, Kd.R (Kd.int .i64) 3 w base (fun _ => True) u us → Kd.R (Kd.int .i64) 3 w' base (fun _ => True) u us
/-- The other captured variable: how many are asked for. -/
def Most (W : World) (m : Nat) (most : Int) : Prop := W.heap[m]? = some (.cells #[.int .i64 most] 2 (0, 0))

set_option maxHeartbeats 8000000 in
set_option maxRecDepth 100000 in
theorem clo2 (w : World) (base g m : Nat) (most : Int) (hg : base ≤ g) (i p : Int) (more : Bool) (xs : List S27) (hx : xs.length ≤ 1000000) (hbase : base ≤ w.heap.size) (hbox : Box w base g xs) (hmost : Most w m most) (room : Bool) (hroom : decide (((xs.length : Int) + 1) < most) = room) :
    Calls Try.prog 17 #[.int .i64 i, .int .i64 p, .bool more, .pointer (some ⟨g, 0, none⟩), .pointer (some ⟨m, 0, none⟩)] w fun e w' => e = .returned (.bool room) ∧ Box w' base g (xs ++ [⟨i, p, more⟩]) ∧ Most w' m most ∧ Below base w w' ∧ Keep3 w w' base := by
  obtain ⟨v, hb, hr⟩ := hbox
  obtain ⟨A, c, rfl⟩ := Kd.R_slice hr
  have hcell : w.cell? ⟨g, 0, none⟩ = some (.slice A xs.length c) := (blk_cell hb 0).trans rfl
  have hne : some g ≠ (.slice A xs.length c : Value).ownBlock := Kd.R_away (Kd.R_types hr hb (by decide)) (fun _ hk => hk.2)
  have hnm : some m ≠ (.slice A xs.length c : Value).ownBlock := Kd.R_away (Kd.R_types hr hmost (by decide)) (fun _ hk => hk.2)
  have hgm : m ≠ g := by
    rintro rfl
    unfold Most at hmost
    rw [hmost] at hb
    simp at hb
  have HR := Aside0.mk hr
  have HB := Aside0.mk hb
  have HM := Aside0.mk hmost
  have HBL := Aside0.mk (Below.refl base w)
  clear hr hb hmost
  obtain ⟨ys, hys⟩ : ∃ ys, ys = xs ++ [(⟨i, p, more⟩ : S27)] := ⟨_, rfl⟩
  have hyl : (ys.length : Int) = (xs.length : Int) + 1 := by rw [hys]; simp
  rw [← hyl] at hroom
  rw [← hys]
  have HY := Aside0.mk hys
  clear hys hyl
  go_enter Try.func17, Try.ntmps17
  go_wp2_with (first | ((with_reducible refine gate_builtin (b := .append) (xs := #[.tmp 9, .tmp 14]) rfl ?_); at_builtin; refine Kd.R_append k27 (w0 := w) base rfl (.tmp 9) (.tmp 14) 23 27 (.agg #[.int .i64 0, .int .i64 0, .bool false]) 24 rfl Try.underlying23 info27 rfl (by decide) (by omega) (.slice A xs.length c) xs (⟨i, p, more⟩ : S27) [.int .i64 i, .int .i64 p, .bool more] (fun _ => True) (fun _ => False) rfl rfl ?aP (fun _ hk => hk.elim) ?aF ?aO ?aB ?aS ?aL ?_; (case aP => exact k27_mkM _ _ _ (⟨i, p, more⟩ : S27)); (case aF => exact (fun _ _ => trivial)); (case aO => exact HR.out); (case aB => exact HBL.out); (case aS => exact hbase); (case aL => omega); intro v1 w1 ho hb1 hg1 hat; rw [← HY.out] at ho; obtain ⟨A1, c1, e1⟩ := Kd.R_slice ho; subst e1; have HO1 := Aside0.mk ho; have HB1 := Aside0.mk hb1; have HG1 := Aside0.mk hg1; have BK1 := Aside0.mk (blk_grown HB.out hg1 hne); have BM1 := Aside0.mk (blk_grown HM.out hg1 hnm); clear ho hb1 hg1 hat; have hc1 : w1.cell? ⟨g, 0, none⟩ = some (.slice A xs.length c) := (blk_cell BK1.out 0).trans rfl; have hf1 := blk_frozen BK1.out 0; have hc2 : (w1.setCell ⟨g, 0, none⟩ (.slice A1 ys.length c1)).cell? ⟨g, 0, none⟩ = some (.slice A1 ys.length c1) := (blk_cell (blk_set BK1.out 0 _) 0).trans rfl; have hm2 : (w1.setCell ⟨g, 0, none⟩ (.slice A1 ys.length c1)).cell? ⟨m, 0, none⟩ = some (.int .i64 most) := (blk_cell (blk_far BM1.out (p := ⟨g, 0, none⟩) hgm _) 0).trans rfl))
  go_ret
  exact ⟨by first | rfl | (rw [← hroom]; rfl) | (rw [← hroom]) | (simp [hroom]), ⟨_, blk_set BK1.out 0 _, Kd.R_set HO1.out BK1.out (by decide) 0 _⟩, blk_far BM1.out (p := ⟨g, 0, none⟩) hgm _, HB1.out.setCell hg _, fun u us h => Kd.R_set (Kd.R_over' h (Kd.R_typed HR.out) (by decide) HG1.out) BK1.out (by decide) 0 _⟩

theorem w64 {x : Int} (h0 : -9223372036854775808 ≤ x) (h1 : x ≤ 9223372036854775807) : wrap64 x = x := by unfold wrap64; omega
theorem par (l : List Int) (J : Int) (h0 : 0 ≤ J) (h1 : J < (l.length : Int)) : Go.Proofs.Ytiledebjfflmmaa.PT.parser_Param.f 1 l J = some (pv (rd l J) (-1)) := by
  have e : decide (J ≥ (l.length : Int)) = false := decide_eq_false (by omega)
  unfold Go.Proofs.Ytiledebjfflmmaa.PT.parser_Param.f
  rw [if_neg (by omega), if_neg (by omega), e]
  simp only [Go.Proofs.Ytiledebjfflmmaa.PT.parser_Param.j0]
  rw [if_neg (by simp), if_pos h0, if_pos h1]
  unfold pv
  split <;> rfl
theorem mor (l : List Int) (J : Int) (h0 : 0 ≤ J) (h1 : J < (l.length : Int)) : Go.Proofs.Ytiledebjfflmmaa.PT.parser_HasMore.f l J = some (hm (rd l J)) := by
  unfold Go.Proofs.Ytiledebjfflmmaa.PT.parser_HasMore.f
  rw [if_neg (by omega), if_neg (by omega), if_pos h0, if_pos h1]
  rfl
theorem Most.drewN {W : World} {m : Nat} {most : Int} (h : Most W m most) (n : Nat) : Most (W.drewN n) m most := h

set_option maxHeartbeats 8000000 in
set_option maxRecDepth 100000 in
theorem range (w : World) (base g m : Nat) (most : Int) (hg : base ≤ g) (A : Option Addr) (c : Nat) (l : List Int) (hl : l.length ≤ 100000) (hmo : 1 ≤ most) (hbase : base ≤ w.heap.size)
    (hp : Kd.R (Kd.int .i64) 3 w base (fun _ => True) (.slice A l.length c) l) (hbox : Box w base g []) (hmost : Most w m most) :
    Calls Try.prog 16 #[.slice A l.length c, .func (.func 17) #[] #[.pointer (some ⟨g, 0, none⟩), .pointer (some ⟨m, 0, none⟩)]] w fun e w' => e = .returned (.tuple #[]) ∧ Box w' base g (ents (-1) l (min most.toNat l.length)) ∧ Below base w w' := by
  have HP0 := Aside0.mk hp
  have HX0 := Aside0.mk hbox
  have HM0 := Aside0.mk hmost
  clear hp hbox hmost
  go_enter Try.func16, Try.ntmps16
  go_wp2
  go_loopw [7] (fun v wr => ∃ (J : Int) (k : Nat), v = .int .i64 J ∧ Aside0 (J = (k : Int)) ∧ Aside0 (k ≤ l.length) ∧ Aside0 ((k : Int) < most) ∧ Aside0 (Kd.R (Kd.int .i64) 3 wr base (fun _ => True) (.slice A l.length c) l) ∧ Aside0 (Box wr base g (ents (-1) l k)) ∧ Aside0 (Most wr m most) ∧ Aside0 (Below base w wr)) (fun v _ => l.length - (intOf v).toNat)
  case atStart => exact ⟨0, 0, rfl, ⟨rfl⟩, ⟨Nat.zero_le _⟩, ⟨by omega⟩, HP0, HX0, HM0, ⟨Below.refl _ _⟩⟩
  case round =>
    obtain ⟨J, k, rfl, HJ, HK, HL, HP, HBX, HM, HBL⟩ := hrel
    by_cases hlt : k < l.length
    · have hj := HJ.out
      have tlt : decide (J < (l.length : Int)) = true := decide_eq_true (by omega)
      have p0 : 0 ≤ J := by omega
      have q0 : J < (l.length : Int) := by omega
      have hwr : wrap64 (J + 1) = J + 1 := by unfold wrap64; omega
      have hqr := Kd.R_reads' HP.out
      clear hj
      go_wp2_with fail
      refine (Go.Proofs.Ytiledebjfflmmaa.PT.parser_Param.calls 1 A c l J (pv (rd l J) (-1)) wr hqr.2.2 hqr.2.1 (par l J p0 q0)).mono ?_
      rintro e w1 ⟨rfl, ⟨n1, rfl⟩⟩
      go_wp2_with fail
      have hqr1 := Kd.R_reads' (Kd.R_drewN HP.out n1)
      refine (Go.Proofs.Ytiledebjfflmmaa.PT.parser_HasMore.calls A c l J (hm (rd l J)) _ hqr1.2.2 hqr1.2.1 (mor l J p0 q0)).mono ?_
      rintro e w2 ⟨rfl, ⟨n2, rfl⟩⟩
      clear hqr hqr1
      by_cases hroom : ((k : Int) + 1) < most
      · go_wp2_with fail
        refine (clo2 (wr.drewN (n1 + n2)) base g m most hg J (pv (rd l J) (-1)) (hm (rd l J)) (ents (-1) l k) (by rw [ents_len]; omega) (by have := HBL.out.size; simp only [World.drewN]; omega) (Box.drewN HBX.out _) HM.out true (by rw [ents_len]; exact decide_eq_true hroom)).mono ?_
        rintro e w3 ⟨rfl, hbx3, hm3, hbl3, hkp⟩
        go_wp2
        go_roundw
        case rel => exact ⟨J + 1, k + 1, rfl, ⟨by rw [HJ.out]; rfl⟩, ⟨hlt⟩, ⟨by omega⟩, ⟨hkp _ _ (Kd.R_drewN HP.out _)⟩, ⟨by rw [ents_succ, ← HJ.out]; exact hbx3⟩, ⟨hm3⟩, ⟨(pw_below_drewN HBL.out _).trans hbl3⟩⟩
        case measure =>
          have := HJ.out
          simp [intOf]
          omega
      · have hmin : min most.toNat l.length = k + 1 := by have := HL.out; omega
        go_wp2_with fail
        refine (clo2 (wr.drewN (n1 + n2)) base g m most hg J (pv (rd l J) (-1)) (hm (rd l J)) (ents (-1) l k) (by rw [ents_len]; omega) (by have := HBL.out.size; simp only [World.drewN]; omega) (Box.drewN HBX.out _) HM.out false (by rw [ents_len]; exact decide_eq_false (by omega))).mono ?_
        rintro e w3 ⟨rfl, hbx3, hm3, hbl3, hkp⟩
        go_wp2
        go_end0
        exact ⟨rfl, by rw [hmin, ents_succ, ← HJ.out]; exact hbx3, (pw_below_drewN HBL.out _).trans hbl3⟩
    · have hj := HJ.out
      have tlt : decide (J < (l.length : Int)) = false := decide_eq_false (by omega)
      obtain rfl : k = l.length := by have := HK.out; omega
      have hmin : min most.toNat l.length = l.length := by have := HL.out; omega
      clear hj
      go_wp2
      go_end0
      exact ⟨rfl, by rw [hmin]; exact HBX.out, HBL.out⟩

end Go.Proofs.Ytiledebjfflmmaa.Ea
