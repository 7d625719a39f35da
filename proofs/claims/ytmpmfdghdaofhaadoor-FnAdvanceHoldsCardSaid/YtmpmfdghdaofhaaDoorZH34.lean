/- Texts of this claim, joined; what isn't needed is left out (wip/slim.py). -/
import Derived.Test.YtmpmfdghdaofhaaDoorZH24
import Derived.Test.YtmpmfdghdaofhaaDoorZH26
import Derived.Test.YtmpmfdghdaofhaaDoorZH29
import Derived.Test.YtmpmfdghdaofhaaDoorZH31
import Derived.Test.YtmpmfdghdaofhaaDoorZH32
import Derived.Test.YtmpmfdghdaofhaaDoorZH33
import Derived.Lib.LaidU8T
namespace Go.Proofs.YtmpmfdghdaofhaaDoor.AdvH
set_option linter.unusedVariables false
set_option linter.unusedSimpArgs false
open Go Go.RowKit Go.Proofs.YtmpmfdghdaofhaaDoor.Pm Go.Proofs.YtmpmfdghdaofhaaDoorW.PrintWords Go.Proofs.YtmpmfdghdaofhaaDoorW.PrintLast Go.Proofs.YtmpmfdghdaofhaaDoorW.PrintMore
theorem drawn_below {w w' : World} (h : Drawn0 w w') : Below w.heap.size w w' := by
  obtain ⟨q, rfl⟩ := h
  exact ⟨rfl, rfl, rfl, Nat.le_refl _, fun _ _ => rfl⟩
theorem cell_on {W W' : World} (hb : Below W.heap.size W W') {p : Addr} {v : Value} (h : W.cell? p = some v) : W'.cell? p = some v := (hb.cell (World.block_lt_of_cell? W _ h)).trans h
theorem cell_same {W W' : World} {p : Addr} (h : W'.heap[p.block]? = W.heap[p.block]?) : W'.cell? p = W.cell? p := by
  unfold World.cell?
  rw [h]
theorem add_block (p : Addr) (k : Nat) : (p.add k).block = p.block := by
  unfold Addr.add
  repeat' split
  all_goals rfl
theorem far_lo {B B' : Nat} {w0 W : World} {gm gq : Nat} (h : Sp.FarB B w0 W gm gq) (hB : B' ≤ B) (hm : B' ≤ gm) (hq : B' ≤ gq) : Below B' w0 W :=
  ⟨h.os, h.tape, h.output, h.size, fun k hk => h.block k (by omega) (by omega) (by omega)⟩
theorem mv_base {B : Nat} {w0 W : World} {gm gq n : Nat} {D : Int} {T : Nat} {s : Sp.SM} (h : Sp.MV B w0 W gm gq n D T s (.slice none 0 0) (.slice none 0 0) ⟨.slice none 0 0, []⟩) (hd : s.da = []) (hp : s.pt = []) : Sp.MV W.heap.size W W gm gq n D T s (.slice none 0 0) (.slice none 0 0) ⟨.slice none 0 0, []⟩ :=
  ⟨h.bm, h.bq, by rw [hd]; exact Kd.R_nil _ _ _ _ _, by rw [hp]; exact Kd.R_nil _ _ _ _ _, ⟨[], Nat.zero_le _, Kd.R_nil _ _ _ _ _, Sp.HEv.nil _ _ _⟩, fun k hk => by simp [Value.ownBlock] at hk, h.hn, h.ld, h.lp, Sp.FarB.refl _ _ _ _, Nat.le_refl _⟩
theorem mstepS (B : Nat) (w0 w : World) (gm gq n m T : Nat) (p : PM) (s : Sp.SM) (vd vp : Value) (ve : Sp.VE) (h : Sp.MV B w0 w gm gq n (m : Int) T s vd vp ve) (hs : SimS n m p s) (b : Int) (hb0 : 0 ≤ b) (hb1 : b < 256) (hbo : b < 194 ∨ 244 < b) (hT : T ≤ 90000) (hn : 4 ≤ n) (hn2 : n ≤ 1000000) (hm : 1 ≤ m) :
    Calls Tryd.prog 15 #[.pointer (some ⟨gm, 0, none⟩), .int .u8 b] w fun e w' => (∃ a, e = .returned (.int .i64 a)) ∧ ∃ s' vd' vp' ve', Sp.MV B w0 w' gm gq n (m : Int) (T + 2) s' vd' vp' ve' ∧ SimS n m (pstep n p b).1 s' := by
  have hst : s.st = p.st := by
    obtain ⟨pt, e⟩ := hs.v
    rw [e]
    rfl
  have hcnt : s.cnt ≤ n := by
    obtain ⟨pt, e⟩ := hs.v
    rw [e]
    exact hs.ok.pl
  have h14 : s.st ≠ 14 := by rw [hst]; exact hs.s14
  have h0 : 0 ≤ s.st := by rw [hst]; exact hs.ok.s0
  have h1 : s.st ≤ 14 := by rw [hst]; exact hs.ok.s1
  have hsim := simS n m hn hm p s b hs hb0 hb1 hbo
  have he := ent_ok s.st b h0 (by omega) hb0 hb1
  refine (Sp.sadv_ B w0 w gm gq n T (m : Int) s vd vp ve h b (Ma.nx s.st b) (Ma.ac s.st b) hb0 hb1 ⟨he.a0, he.a9⟩ (by omega) hcnt ⟨hn2, by omega⟩ ⟨he.h4, he.h8⟩ h14 (fun w => (PK.spec_Transition.calls 40 s.st b _ _ w (Ma.spec_is s.st b h0 (by omega) hb0 hb1)).mono (fun e w' h => ⟨h.1, drawn_below h.2⟩))).mono ?_
  rintro e w' ⟨he, vd', vp', v8, hv⟩
  exact ⟨⟨_, he⟩, _, vd', vp', _, hv.more (by omega), hsim⟩
theorem prunS_len (n : Nat) : ∀ (l : List Int) (p : PM), (prunS n p l).length = l.length := by
  intro l
  induction l with
  | nil => intro p; rfl
  | cons b l ih => intro p; rw [prunS_cons, List.length_cons, List.length_cons, ih]
def g19T : Bool × List (List Nat × List Nat) := (true, [([], []), ([], []), ([0, 1], [0, 1]), ([2], [2]), ([3], [3]), ([], []), ([5], [5]), ([6], [6]), ([7], [7]), ([4, 8], [4, 8]), ([9], [9]), ([10], [10]), ([10], [10]), ([11, 12, 10], [10, 11, 12]), ([13, 10], [10, 13]), ([14, 10], [10, 14]), ([10], [10]), ([16, 10], [10, 16]), ([17, 10], [10, 17]), ([18, 10], [10, 18]), ([10], [10]), ([20, 10], [10, 20]), ([21, 10], [10, 21]), ([22, 10], [10, 22]), ([19, 23, 10], [10, 19, 23]), ([15, 24, 10, 10], [10, 15, 24]), ([25, 10], [10, 25]), ([10, 26], [10, 26]), ([27, 25], [27]), ([28], [28]), ([28], [28]), ([29, 30, 28], [28, 29, 30]), ([31, 28], [28, 31]), ([32, 28], [28, 32]), ([28], [28]), ([34, 28], [28, 34]), ([35, 28], [28, 35]), ([36, 28], [28, 36]), ([33, 37, 28, 28], [28, 33, 37]), ([38, 28], [28, 38]), ([28, 39], [28, 39])])
def g19B : List Nat := [0, 0, 3, 7, 15, 0, 32, 96, 224, 511, 1023, 2047, 2047, 8191, 16383, 32767, 2047, 67583, 198655, 460799, 2047, 1050623, 3147775, 7342079, 16713727, 33554431, 67108863, 134217727, 268435455, 536870911, 536870911, 2147483647, 4294967295, 8589934591, 536870911, 17716740095, 52076478463, 120795955199, 274877906943, 549755813887, 1099511627775]
theorem g19_tab : rtab .any (opsOf Tryd.f6 19) = g19T := by kernel_rfl
theorem g19_bits : waitsOk g19T.2 g19B = true := by kernel_rfl
theorem info5 : (Tryd.prog.info? 5).map (fun i => (i.zero, i.size, i.bytes)) = some (some (.int .u8 0), 1, 1) := by kernel_rfl
set_option maxHeartbeats 16000000 in
set_option maxRecDepth 100000 in
theorem walk (a0 a1 : Int) (A : Option Addr) (c : Nat) (l : List Int) (w : World) (hr : Kd.C (Kd.int .u8) w A l.length l) (hc : l.length ≤ c) (hb : ∀ x ∈ l, 0 ≤ x ∧ x < 256) (hT : Lib.Utf8Tabs 0 1 w) :
    Calls Tryd.prog 6 #[.int .i64 a0, .int .i64 a1, .slice A l.length c] w fun e w' => e = .returned (.bool true) ∧ Below w.heap.size w w' := by
  have HR := Aside0.mk hr
  have HC := Aside0.mk hc
  have HBY := Aside0.mk hb
  have HT := Aside0.mk hT
  clear hr hc hb hT
  obtain ⟨L, hL⟩ : ∃ L, L = l.length := ⟨_, rfl⟩
  have HL := Aside0.mk (show l.length = L from hL.symm)
  rw [← hL]
  clear hL
  by_cases hbig : 2147483647 < (L : Int)
  · have t0 : decide (2147483647 < (L : Int)) = true := decide_eq_true hbig
    clear hbig
    go_enter Tryd.func6, Tryd.ntmps6
    go_wp2
    go_ret
    exact ⟨rfl, Below.refl _ _⟩
  have t0 : decide (2147483647 < (L : Int)) = false := decide_eq_false hbig
  clear hbig
  obtain ⟨r, hf⟩ : ∃ r, PF.laws_isFed.f a0 a1 l = some r := by
    unfold PF.laws_isFed.f
    repeat' split
    all_goals exact ⟨_, rfl⟩
  have HFED := Aside0.mk (show Calls Tryd.prog 11 #[.int .i64 a0, .int .i64 a1, .slice A L c] w fun e w' => e = .returned (.bool r) ∧ Drawn0 w w' by
    have h_ := PF.laws_isFed.calls a0 a1 A c l r w HR.out HC.out hf
    rw [HL.out] at h_
    exact h_)
  cases r with
  | false =>
    clear hf
    go_enter Tryd.func6, Tryd.ntmps6
    go_wp2_with fail
    refine HFED.out.mono ?_
    rintro e w1 ⟨rfl, hd⟩
    have HD := Aside0.mk (drawn_below hd)
    clear hd
    go_wp2
    go_ret
    exact ⟨rfl, HD.out⟩
  | true =>
    have hin : (4 ≤ a0 ∧ a0 ≤ 64) ∧ a1 ≤ 2000 ∧ L ≤ 600 := by
      unfold PF.laws_isFed.f at hf
      repeat' split at hf
      all_goals first | (simp at hf; done) | skip
      simp at hf
      have := HL.out
      omega
    clear hf
    by_cases hd1 : a1 < 1
    · have t1 : decide (a1 < 1) = true := decide_eq_true hd1
      clear hd1 hin
      go_enter Tryd.func6, Tryd.ntmps6
      go_wp2_with fail
      refine HFED.out.mono ?_
      rintro e w1 ⟨rfl, hd⟩
      have HD := Aside0.mk (drawn_below hd)
      clear hd
      go_wp2
      go_ret
      exact ⟨rfl, HD.out⟩
    obtain ⟨n, rfl⟩ := Int.eq_ofNat_of_zero_le (show 0 ≤ a0 by omega)
    obtain ⟨m, rfl⟩ := Int.eq_ofNat_of_zero_le (show 0 ≤ a1 by omega)
    have t1 : decide ((m : Int) < 1) = false := decide_eq_false hd1
    have HIN := Aside0.mk (show 4 ≤ n ∧ n ≤ 64 ∧ 1 ≤ m ∧ m ≤ 2000 ∧ L ≤ 600 by omega)
    clear hin hd1
    go_enter Tryd.func6, Tryd.ntmps6
    go_wp2_with fail
    refine HFED.out.mono ?_
    rintro e w1 ⟨rfl, hd⟩
    have B1 := Aside0.mk (drawn_below hd)
    clear hd HFED
    go_wp2_with fail
    go_loopw [27] (fun v27 wr => ∃ (J : Int) (k : Nat), v27 = .int .i64 J ∧ Aside0 (J = (k : Int)) ∧ Aside0 (k ≤ L) ∧ Aside0 (Below w.heap.size w wr) ∧ Aside0 (∀ i, i < k → rd l (i : Int) < 194 ∨ 244 < rd l (i : Int))) (fun v27 _ => L - (intOf v27).toNat)
    case atStart => exact ⟨0, 0, rfl, ⟨rfl⟩, ⟨Nat.zero_le _⟩, B1, ⟨fun i h => absurd h (Nat.not_lt_zero _)⟩⟩
    case round =>
      clear B1
      obtain ⟨J, k, rfl, HJ, HK, B2, HNO⟩ := hrel
      have hwr : wrap64 (J + 1) = J + 1 := by have := HJ.out; have := HK.out; have := HIN.out; unfold wrap64; omega
      by_cases hlt : k < L
      · have hj := HJ.out
        have tlt : decide (J < (L : Int)) = true := decide_eq_true (by omega)
        have z0 : 0 ≤ J := by omega
        have z1 : J < (L : Int) := by omega
        have HRR := Kd.C_below HR.out B2.out
        obtain ⟨ad0, e0, hx⟩ := Kd.at_int HRR J z0 (by have := HL.out; omega)
        cases e0
        obtain ⟨b, hbv⟩ : ∃ b, b = rd l J := ⟨_, rfl⟩
        rw [← hbv] at hx
        obtain rfl : J = (k : Int) := hj
        rw [Int.toNat_natCast] at hx
        have HBV := Aside0.mk hbv
        clear hbv HRR
        by_cases g1 : 194 ≤ b
        · have tg1 : decide (194 ≤ b) = true := decide_eq_true g1
          by_cases g2 : b ≤ 244
          · have tg2 : decide (b ≤ 244) = true := decide_eq_true g2
            clear g1 g2
            go_wp2
            go_ret
            exact ⟨rfl, B2.out⟩
          · have tg2 : decide (b ≤ 244) = false := decide_eq_false g2
            have HOK := Aside0.mk (show b < 194 ∨ 244 < b by omega)
            clear g1 g2
            go_wp2
            go_roundw
            case rel =>
              exact ⟨_, k + 1, rfl, ⟨by first | rfl | (rw [hwr]; rfl)⟩, ⟨by omega⟩, B2, ⟨fun i hi => by
                rcases Nat.lt_or_ge i k with h | h
                · exact HNO.out i h
                · obtain rfl : i = k := by omega
                  rw [← HBV.out]
                  exact HOK.out⟩⟩
            case measure =>
              (try rw [hwr])
              simp [intOf]
              omega
        · have tg1 : decide (194 ≤ b) = false := decide_eq_false g1
          have HOK := Aside0.mk (show b < 194 ∨ 244 < b by omega)
          clear g1
          go_wp2
          go_roundw
          case rel =>
            exact ⟨_, k + 1, rfl, ⟨by first | rfl | (rw [hwr]; rfl)⟩, ⟨by omega⟩, B2, ⟨fun i hi => by
              rcases Nat.lt_or_ge i k with h | h
              · exact HNO.out i h
              · obtain rfl : i = k := by omega
                rw [← HBV.out]
                exact HOK.out⟩⟩
          case measure =>
            (try rw [hwr])
            simp [intOf]
            omega
      · have tlt : decide (J < (L : Int)) = false := decide_eq_false (by have := HJ.out; omega)
        have HBO := Aside0.mk (show ∀ x ∈ ([27, 91, 48, 109] : List Int) ++ l, (0 ≤ x ∧ x < 256) ∧ (x < 194 ∨ 244 < x) from fun x hx => by
          rcases List.mem_append.1 hx with h | h
          · simp at h
            omega
          · refine ⟨HBY.out x h, ?_⟩
            obtain ⟨i, hi, e⟩ := List.mem_iff_getElem.1 h
            have h2 := HNO.out i (by have := HL.out; omega)
            unfold rd at h2
            rw [Int.toNat_natCast, List.getD_eq_getElem?_getD, List.getElem?_eq_getElem hi, Option.getD_some, e] at h2
            exact h2)
        clear HNO HJ HK hlt
        go_wp2_with (first | ((with_reducible refine gate_dst (N := 40) rfl ?_); refine Lit.lit_mark (xs := [27, 91, 48, 109]) 27 ?hg ?hg2 Tryd.underlying27 Tryd.underlying5 (by decide) ?hr ?h2 ?_; (case hg => rfl); (case hg2 => rfl); (case hr => first | (go_simp; done) | (go_simp; rfl)); (case h2 => intro v_ W_; (try simp only [Act.put, List.setIfInBounds_toArray, List.set_cons_zero, List.set_cons_succ]); first | (go_simp; done) | (go_simp; rfl)); intro va wa hLR_ hF_ hb_; have HLM1 := Aside0.mk hLR_; have HLF1 := Aside0.mk hF_; have HLB1 := Aside0.mk hb_; clear hLR_ hF_ hb_) | ((with_reducible refine gate_dst (N := 43) rfl ?_); refine Lit.lit_append_rows (W := wa) (xs := [27, 91, 48, 109]) (ys := l) 0 rfl (.tmp 41) (.tmp 42) 27 (.int .u8 0) rfl Tryd.underlying27 info5 rfl va A c (fun _ => True) ?hs ?hx HLF1.out (Lit.LR_lower HLM1.out (Nat.zero_le _)) (Kd.C_below HR.out (below_step B2.out HLB1.out)) (Nat.zero_le _) (by show 4 + l.length ≤ _; have := HL.out; have := HIN.out; omega) ?_; (case hs => rfl); (case hx => (try simp only [Act.put, List.setIfInBounds_toArray, List.set_cons_zero, List.set_cons_succ]); first | rfl | (rw [HL.out]; rfl)); intro vb wb hLR_ hcp_ hb_; have HLR1 := Aside0.mk hLR_; have HCP1 := Aside0.mk hcp_; have HLA1 := Aside0.mk hb_; clear hLR_ hcp_ hb_) | fail)
        obtain ⟨A2, c2, e2, hcap2⟩ := HCP1.out
        subst e2
        obtain ⟨ll, hll⟩ : ∃ ll, ll = ([27, 91, 48, 109] : List Int) ++ l := ⟨_, rfl⟩
        have HLL := Aside0.mk hll
        rw [← hll] at HLR1 HBO hcap2 ⊢
        obtain ⟨L4, hL4⟩ : ∃ L4, L4 = ll.length := ⟨_, rfl⟩
        have HL4 := Aside0.mk (show ll.length = L4 from hL4.symm)
        have HL5 := Aside0.mk (show L4 = L + 4 by rw [hL4, hll, List.length_append, HL.out]; show 4 + L = L + 4; omega)
        rw [← hL4] at hcap2 ⊢
        have HCAP2 := Aside0.mk hcap2
        have hC2 : Kd.C (Kd.int .u8) wb A2 ll.length ll := by
          obtain ⟨_, g_, c_, e_, h_, _, _⟩ := HLR1.out
          injection e_ with e1 _ _
          rw [e1]
          exact h_
        have B3 := Aside0.mk (show Below w.heap.size w wb from below_step (below_step B2.out HLB1.out) HLA1.out)
        have HADV := Aside0.mk (show Calls Tryd.prog 12 #[.int .i64 (n : Int), .int .i64 (m : Int), .slice A2 L4 c2] wb fun e w' => ∃ v xs, e = .returned v ∧ Kd.R (Kd.raw 7) 37 w' wb.heap.size (fun _ => True) v xs ∧ HeldAll w' wb.heap.size (fun _ => True) xs (prunS n (p0 n m) ll) ∧ Below wb.heap.size wb w' by
          have hi := HIN.out
          have h5 := HL5.out
          have h_ := advanceS_ wb A2 c2 n m ll hC2 (by rw [HL4.out]; exact HCAP2.out) (by have := HL4.out; omega) (fun x hx => (HBO.out x hx).1) (by omega) (by omega) (well n m (by omega)) (Go.Proofs.Utf8Tabs_below HT.out B3.out)
          rw [HL4.out] at h_
          exact h_)
        clear hL4 hll hcap2 hC2 HLR1 HLM1 HLF1 HLB1 HLA1 HCP1
        go_wp2_with fail
        refine HADV.out.mono ?_
        rintro e w3 ⟨v3, xs, rfl, hr3, hall, hb3⟩
        have B4 := Aside0.mk (below_step B3.out hb3)
        have HALL := Aside0.mk hall
        have HXL := Aside0.mk (show xs.length = L4 by rw [hall.1, prunS_len, HL4.out])
        obtain ⟨A3, c3, e3⟩ : ∃ A c, v3 = .slice A L4 c := by
          obtain ⟨A, c, e⟩ := Kd.R_slice hr3
          exact ⟨A, c, by rw [e, HXL.out]⟩
        subst e3
        have HF3 := Aside0.mk (show ∃ g, A3 = some ⟨g, 0, none⟩ by
          obtain ⟨g, c', e, _⟩ := Kd.R_form hr3 (by rw [HXL.out, HL5.out]; omega)
          cases e
          exact ⟨g, rfl⟩)
        have HC3 := Aside0.mk (show Kd.C (Kd.raw 7) w3 A3 xs.length xs by
          have h2 := (Kd.R_reads' hr3).2.2
          first | exact h2 | (rw [HXL.out]; exact h2))
        have tne : ((L4 : Int) != wrap64 ((L : Int) + 4)) = false := by
          have h1 : wrap64 ((L : Int) + 4) = (L4 : Int) := by have := HL5.out; have := HIN.out; unfold wrap64; omega
          rw [h1]
          simp
        clear hr3 hall hb3 HADV
        go_wp2_with fail
        refine (Sp.newMachine_ w3 n (m : Int) (by have := HIN.out; omega)).mono ?_
        rintro e w4 ⟨gm, gq, rfl, hmv, hgm, hgq⟩
        have HM0 := Aside0.mk hmv
        have HGM := Aside0.mk hgm
        have HGQ := Aside0.mk hgq
        clear hmv hgm hgq tne
        go_wp2_with (first | ((with_reducible refine gate_dst (N := 54) rfl ?_); refine Lit.lit_mark (xs := [27, 91, 48, 109]) 27 ?hg ?hg2 Tryd.underlying27 Tryd.underlying5 (by decide) ?hr ?h2 ?_; (case hg => rfl); (case hg2 => rfl); (case hr => first | (go_simp; done) | (go_simp; rfl)); (case h2 => intro v_ W_; (try simp only [Act.put, List.setIfInBounds_toArray, List.set_cons_zero, List.set_cons_succ]); first | (go_simp; done) | (go_simp; rfl)); intro vc wd hLR_ hF_ hb_; have HLM2 := Aside0.mk hLR_; have HLF2 := Aside0.mk hF_; have HLB2 := Aside0.mk hb_; clear hLR_ hF_ hb_) | ((with_reducible refine gate_dst (N := 57) rfl ?_); refine Lit.lit_append_rows (W := wd) (xs := [27, 91, 48, 109]) (ys := l) w4.heap.size rfl (.tmp 55) (.tmp 56) 27 (.int .u8 0) rfl Tryd.underlying27 info5 rfl vc A c (fun _ => True) ?hs ?hx HLF2.out HLM2.out (Kd.C_below HR.out (below_step (below_step B4.out (HM0.out.b.below HGM.out HGQ.out)) HLB2.out)) HLB2.out.size (by show 4 + l.length ≤ _; have := HL.out; have := HIN.out; omega) ?_; (case hs => rfl); (case hx => (try simp only [Act.put, List.setIfInBounds_toArray, List.set_cons_zero, List.set_cons_succ]); first | rfl | (rw [HL.out]; rfl)); intro vd_ we hLR_ hcp_ hb_; have HLR2 := Aside0.mk hLR_; have HCP2 := Aside0.mk hcp_; have HLA2 := Aside0.mk hb_; clear hLR_ hcp_ hb_; (obtain ⟨A5, c5, e5, hcap5⟩ := HCP2.out); subst e5; (rw [← HLL.out] at HLR2 hcap5 ⊢); (rw [HL4.out] at hcap5 ⊢)) | fail)
        obtain ⟨ad5, hA5, HC5⟩ : ∃ ad, Aside0 (A5 = some ad ∧ w4.heap.size ≤ ad.block ∧ ad.block < we.heap.size) ∧ Aside0 (Kd.C (Kd.int .u8) we A5 ll.length ll) := by
          obtain ⟨_, g_, c_, e_, h_, hb_, hlt_⟩ := HLR2.out
          injection e_ with e1 _ _
          rw [e1]
          exact ⟨_, ⟨rfl, hb_, hlt_⟩, ⟨h_⟩⟩
        have HBME := Aside0.mk (show Below w4.heap.size w4 we from below_step HLB2.out HLA2.out)
        have HMX := Aside0.mk (mv_base (HM0.out.on HBME.out) rfl rfl)
        have HGLT := Aside0.mk (show gm < w4.heap.size ∧ gq < w4.heap.size from ⟨blk_lt HM0.out.bm, blk_lt HM0.out.bq⟩)
        have HB3E := Aside0.mk (show Below w3.heap.size w3 we from below_step (HM0.out.b.below HGM.out HGQ.out) HBME.out)
        obtain ⟨B0, hB0⟩ : ∃ B0, B0 = we.heap.size := ⟨_, rfl⟩
        rw [← hB0] at HMX hA5
        have HLE0 := Aside0.mk (show w3.heap.size ≤ B0 by rw [hB0]; exact HB3E.out.size)
        clear hB0 HM0 HBME HLR2 HLM2 HLF2 HLB2 HLA2 HCP2 hcap5
        go_loopw [59] (fun v59 wr => ∃ (J : Int) (k T : Nat) (p : PM) (s : Sp.SM) (vd vp : Value) (ve : Sp.VE) (dn : List OU), v59 = .int .i64 J ∧ Aside0 (J = (k : Int)) ∧ Aside0 (k ≤ L4) ∧ Aside0 (T ≤ 2 * k) ∧ Aside0 (Sp.MV B0 we wr gm gq n (m : Int) T s vd vp ve) ∧ Aside0 (SimS n m p s) ∧ Aside0 (dn.length = k) ∧ Aside0 (dn ++ prunS n p (ll.drop k) = prunS n (p0 n m) ll)) (fun v59 _ => L4 - (intOf v59).toNat)
        case atStart => exact ⟨0, 0, 0, p0 n m, Sp.s0 n, _, _, _, [], rfl, ⟨rfl⟩, ⟨Nat.zero_le _⟩, ⟨Nat.le_refl _⟩, HMX, ⟨simS0 n m⟩, ⟨rfl⟩, ⟨rfl⟩⟩
        case round =>
          clear HMX
          obtain ⟨J, k, T, p, s, vd, vp, ve, dn, rfl, HJ, HK, HTT, HM, HS, HDN, HA⟩ := hrel
          have hwr : wrap64 (J + 1) = J + 1 := by have := HJ.out; have := HK.out; have := HIN.out; have := HL5.out; unfold wrap64; omega
          by_cases hlt : k < L4
          · have hj := HJ.out
            have tlt : decide (J < (L4 : Int)) = true := decide_eq_true (by omega)
            have z0 : 0 ≤ J := by omega
            have z1 : J < (L4 : Int) := by omega
            obtain ⟨ad_, e0, hx_⟩ := Kd.at_int HC5.out J z0 (by have := HL4.out; omega)
            obtain ⟨b, hbv⟩ : ∃ b, b = rd ll J := ⟨_, rfl⟩
            rw [← hbv] at hx_
            obtain rfl : J = (k : Int) := hj
            rw [Int.toNat_natCast] at hx_
            have eA : A5 = some ad5 := hA5.out.1
            obtain rfl : ad_ = ad5 := by
              rw [eA] at e0
              exact (Option.some.inj e0).symm
            subst eA
            clear e0
            have hx : wr.cell? (ad_.add k) = some (.int .u8 b) := by
              have h1 := hA5.out
              have h2 := HGLT.out
              refine (cell_same ?_).trans hx_
              rw [add_block]
              exact HM.out.b.block _ h1.2.2 (by omega) (by omega)
            have hkl : k < ll.length := by rw [HL4.out]; exact hlt
            have hbm : b ∈ ll := by
              rw [hbv]
              unfold rd
              rw [Int.toNat_natCast, List.getD_eq_getElem?_getD, List.getElem?_eq_getElem hkl]
              exact List.getElem_mem hkl
            have hdr : ll.drop k = b :: ll.drop (k + 1) := by
              rw [List.drop_eq_getElem_cons hkl, hbv]
              unfold rd
              rw [Int.toNat_natCast, List.getD_eq_getElem?_getD, List.getElem?_eq_getElem hkl]
              rfl
            have hbb := HBO.out b hbm
            have HSTEP := Aside0.mk (mstepS B0 we wr gm gq n m T p s vd vp ve HM.out HS.out b hbb.1.1 hbb.1.2 hbb.2 (by have := HTT.out; have := HIN.out; have := HL5.out; omega) (by have := HIN.out; omega) (by have := HIN.out; omega) (by have := HIN.out; omega))
            obtain ⟨p1, hp1⟩ : ∃ q, q = (pstep n p b).1 := ⟨_, rfl⟩
            obtain ⟨q, hq⟩ : ∃ q, q = ou (pstep n p b) := ⟨_, rfl⟩
            have HQP := Aside0.mk (show q.cmd = p1.cmd ∧ q.ps = p1.ps.take p1.pl ∧ q.da = p1.da.take p1.dl by rw [hq, hp1]; exact ⟨rfl, rfl, rfl⟩)
            rw [← hp1] at HSTEP
            have hA := HA.out
            rw [hdr, prunS_cons, ← hp1, ← hq] at hA
            have HA2 := Aside0.mk (show (dn ++ [q]) ++ prunS n p1 (ll.drop (k + 1)) = prunS n (p0 n m) ll by rw [List.append_assoc]; exact hA)
            have hqk : (prunS n (p0 n m) ll)[k]? = some q := by
              rw [← hA, List.getElem?_append_right (by rw [HDN.out]; exact Nat.le_refl _), HDN.out, Nat.sub_self]
              rfl
            have hkx : k < xs.length := by rw [HXL.out]; exact hlt
            obtain ⟨v2_, v3_, vi, vo, hxe, hvi, hvo⟩ := HALL.out.2 k xs[k] q (List.getElem?_eq_getElem hkx) hqk
            obtain ⟨ad, c_, e_, _, hK_, hcell⟩ := Kd.C_get HC3.out ([] : List Value) (k : Int) (by omega) (by rw [HXL.out]; exact z1)
            obtain ⟨rfl, _⟩ := hK_
            rw [Int.toNat_natCast, List.getD_eq_getElem?_getD, List.getElem?_eq_getElem hkx, Option.getD_some, hxe] at hcell
            obtain ⟨gr, er⟩ := HF3.out
            subst er
            cases e_
            obtain ⟨cmd, hcmd⟩ : ∃ z, z = p1.cmd := ⟨_, rfl⟩
            have HCMD := Aside0.mk hcmd
            obtain ⟨ni, hni⟩ : ∃ z, z = q.ps.length := ⟨_, rfl⟩
            obtain ⟨nd, hnd⟩ : ∃ z, z = q.da.length := ⟨_, rfl⟩
            obtain ⟨Ai, ci, ei⟩ := Kd.R_slice hvi
            obtain ⟨Ao, co, eo⟩ := Kd.R_slice hvo
            rw [← hni] at ei
            rw [← hnd] at eo
            subst ei eo
            have QA := Aside0.mk (show w3.cell? ⟨gr, k * 7 + 4, none⟩ = some (.int .i64 cmd) by
              have h_ := hcell 4 _ rfl
              rw [HQP.out.1, ← hcmd] at h_
              simpa [Addr.add, Kd.raw] using h_)
            have QB := Aside0.mk (show w3.cell? ⟨gr, k * 7 + 5, none⟩ = some (.slice Ai ni ci) by
              have h_ := hcell 5 _ rfl
              simpa [Addr.add, Kd.raw] using h_)
            have QC := Aside0.mk (show w3.cell? ⟨gr, k * 7 + 6, none⟩ = some (.slice Ao nd co) by
              have h_ := hcell 6 _ rfl
              simpa [Addr.add, Kd.raw] using h_)
            have HVI := Aside0.mk hvi
            have HVO := Aside0.mk hvo
            have HNI := Aside0.mk hni
            have HND := Aside0.mk hnd
            clear hbv hbm hdr hbb hp1 hq hA hqk hxe hvi hvo hcell hx_ HA hcmd hni hnd
            go_wp2_with fail
            refine HSTEP.out.mono ?_
            rintro e wz ⟨⟨a_, rfl⟩, s1, vd1, vp1, ve1, hv1, hs1⟩
            have HM1 := Aside0.mk hv1
            have HS1 := Aside0.mk hs1
            have HBZ3 := Aside0.mk (show Below w3.heap.size w3 wz from HB3E.out.trans (far_lo hv1.b HLE0.out HGM.out HGQ.out))
            have HVW := Aside0.mk (show s1.ps = p1.ps ∧ s1.da = p1.da.take p1.dl ∧ s1.cnt = p1.pl ∧ s1.cmd = p1.cmd by
              obtain ⟨pt, e⟩ := hs1.v
              rw [e]
              exact ⟨rfl, rfl, rfl, rfl⟩)
            have HPN := Aside0.mk (show p1.pl ≤ n ∧ p1.ps.length = n from ⟨hs1.ok.pl, by rw [← HVW.out.1]; exact hv1.hn⟩)
            have HNC := Aside0.mk (show s1.cnt = ni by rw [HVW.out.2.2.1, HNI.out, HQP.out.2.1, List.length_take, HPN.out.2, Nat.min_eq_left HPN.out.1])
            obtain ⟨Ad, cd, ed⟩ := Kd.R_slice hv1.rd
            rw [show s1.da.length = nd by rw [HVW.out.2.1, HND.out, HQP.out.2.2]] at ed
            subst ed
            have qa : wz.cell? ⟨gr, k * 7 + 4, none⟩ = some (.int .i64 cmd) := cell_on HBZ3.out QA.out
            have qb : wz.cell? ⟨gr, k * 7 + 5, none⟩ = some (.slice Ai ni ci) := cell_on HBZ3.out QB.out
            have qc : wz.cell? ⟨gr, k * 7 + 6, none⟩ = some (.slice Ao nd co) := cell_on HBZ3.out QC.out
            have q3 : wz.cell? ⟨gm, 3, none⟩ = some (.int .i64 (ni : Int)) := by rw [← HNC.out]; exact hv1.c3
            have q4 : wz.cell? ⟨gm, 4, none⟩ = some (.int .i64 cmd) := by rw [HCMD.out, ← HVW.out.2.2.2]; exact hv1.c4
            have q5 : wz.cell? ⟨gm, 5, none⟩ = some (.slice (some ⟨gq, 0, none⟩) n n) := hv1.c5
            have q6 : wz.cell? ⟨gm, 6, none⟩ = some (.slice Ad nd cd) := hv1.c6
            have d0 : (0 : Int) ≤ (ni : Int) := by omega
            have d1 : (ni : Int) ≤ (n : Int) := by have := HNC.out; have := HVW.out.2.2.1; have := HPN.out.1; omega
            have d2 : ni ≤ n := by omega
            have HCI := Aside0.mk (show ∀ W : World, Below wz.heap.size wz W → W.heap[gq]? = some (.cells (cellsP s1.ps) 2 (0, 0)) → Calls Tryd.prog 16 #[.slice Ai ni ci, .slice (some ⟨gq, 0, none⟩) ni n] W fun e w' => e = .returned (.bool true) ∧ Drawn0 W w' from fun W hbW hqW => by
              have h3 : Below w3.heap.size w3 W := below_step HBZ3.out hbW
              have hrd := Kd.R_reads' HVI.out
              have e1 : s1.ps.take ni = q.ps := by rw [HVW.out.1, HQP.out.2.1, ← HNC.out, HVW.out.2.2.1]
              obtain ⟨kk, hk⟩ := same_ints q.ps (by rw [← HNI.out]; have := HIN.out; omega)
              have hC := Sp.C_cells hqW ni (by rw [HVW.out.1, HPN.out.2]; exact d2) (by have := HIN.out; omega)
              rw [e1] at hC
              have hC1 := Kd.C_below (by have h2 := hrd.2.2; exact h2) h3
              have h_ := PS.spec_SameInts.calls kk Ai ci q.ps (some ⟨gq, 0, none⟩) n q.ps true W (by first | exact hC1 | (rw [← HNI.out]; exact hC1)) (by rw [← HNI.out]; first | exact hrd.2.1 | (have := hrd.1; omega)) (by first | exact hC | (rw [← HNI.out]; exact hC)) (by rw [← HNI.out]; exact d2) hk
              rw [← HNI.out] at h_
              exact h_)
            have HCB := Aside0.mk (show ∀ W : World, Below wz.heap.size wz W → Kd.R (Kd.int .u8) 5 W B0 (fun _ => True) (.slice Ad nd cd) s1.da → Calls Tryd.prog 17 #[.slice Ao nd co, .slice Ad nd cd] W fun e w' => e = .returned (.bool true) ∧ Drawn0 W w' from fun W hbW hqW => by
              have h3 : Below w3.heap.size w3 W := below_step HBZ3.out hbW
              have hrd := Kd.R_reads' HVO.out
              have hrq := Kd.R_reads' hqW
              have e1 : s1.da = q.da := by rw [HVW.out.2.1, HQP.out.2.2]
              rw [e1] at hrq
              obtain ⟨kk, hk⟩ := same_bytes q.da (by
                have h8 := hv1.ld
                rw [e1] at h8
                have := HTT.out
                have := HK.out
                have := HL5.out
                have := HIN.out
                omega)
              have hC1 := Kd.C_below (by have h2 := hrd.2.2; exact h2) h3
              have h_ := PS.spec_SameBytes.calls kk Ao co q.da Ad cd q.da true W (by first | exact hC1 | (rw [← HND.out]; exact hC1)) (by rw [← HND.out]; first | exact hrd.2.1 | (have := hrd.1; omega)) (by first | exact hrq.2.2 | (rw [← HND.out]; exact hrq.2.2)) (by rw [← HND.out]; first | exact hrq.2.1 | (have := hrq.1; omega)) hk
              rw [← HND.out] at h_
              exact h_)
            have HDR := Aside0.mk (show Below wz.heap.size wz wz.drew from below_drew (Below.refl _ _))
            clear hv1 hs1 HSTEP hx HM HS
            go_wp2_with fail
            refine start_ (n := 41) (S := (fun w' => w'.cell? ⟨gr, k * 7 + 4, none⟩ = some (.int .i64 cmd) ∧ w'.cell? ⟨gr, k * 7 + 5, none⟩ = some (.slice Ai ni ci) ∧ w'.cell? ⟨gr, k * 7 + 6, none⟩ = some (.slice Ao nd co) ∧ w'.cell? ⟨gm, 3, none⟩ = some (.int .i64 (ni : Int)) ∧ w'.cell? ⟨gm, 4, none⟩ = some (.int .i64 cmd) ∧ w'.cell? ⟨gm, 5, none⟩ = some (.slice (some ⟨gq, 0, none⟩) n n) ∧ w'.cell? ⟨gm, 6, none⟩ = some (.slice Ad nd cd))) (ds := []) #[false, false, false, false, false, false, false, false, false, false, false, false, false, false, false, false, false, false, false, false, false, false, false, false, false, false, false, false, false, false, false, false, false, false, false, false, false, false, false, false, false] (by kernel_rfl) rfl rfl ⟨qa, qb, qc, q3, q4, q5, q6⟩ (fun hHeld => ?_)
            refine with_tabW g19_tab g19_bits (fun HT_ HW_ => ?_)
            have HQ := Aside0.mk (show (fun w' => w'.cell? ⟨gr, k * 7 + 4, none⟩ = some (.int .i64 cmd) ∧ w'.cell? ⟨gr, k * 7 + 5, none⟩ = some (.slice Ai ni ci) ∧ w'.cell? ⟨gr, k * 7 + 6, none⟩ = some (.slice Ao nd co) ∧ w'.cell? ⟨gm, 3, none⟩ = some (.int .i64 (ni : Int)) ∧ w'.cell? ⟨gm, 4, none⟩ = some (.int .i64 cmd) ∧ w'.cell? ⟨gm, 5, none⟩ = some (.slice (some ⟨gq, 0, none⟩) n n) ∧ w'.cell? ⟨gm, 6, none⟩ = some (.slice Ad nd cd)) wz.drew from ⟨cell_on HDR.out qa, cell_on HDR.out qb, cell_on HDR.out qc, cell_on HDR.out q3, cell_on HDR.out q4, cell_on HDR.out q5, cell_on HDR.out q6⟩)
            have HMd := Aside0.mk HM1.out.drew
            have HBZ := HDR
            clear HM1 HDR
            generalize wz.drew = wy at HMd HQ HBZ hHeld ⊢
            refine pure_ (i := 0) (N := some 67) (v := ?_) (a' := ?_) (zF 41 1) rfl rfl (any_of HT_.out (by kernel_rfl)) (fun _ _ _ h => h) (Or.inl ⟨by rfl, ?_⟩) ?_ ?_
            rotate_left; (intro w'; go_simp; with_reducible rfl); rotate_left; (simp only [Act.put, zA, zZ, zS, i64_w, i32_w]; rfl)
            refine pure_ (i := 1) (N := some 68) (v := ?_) (a' := ?_) (zF 41 3) rfl rfl (any_of HT_.out (by kernel_rfl)) (fun _ _ _ h => h) (Or.inl ⟨by rfl, ?_⟩) ?_ ?_
            rotate_left; (intro w'; go_simp; with_reducible rfl); rotate_left; (simp only [Act.put, zA, zZ, zS, i64_w, i32_w]; rfl)
            refine pure_ (i := 2) (N := some 69) (v := ?_) (a' := ?_) (zF 41 7) rfl rfl (any_of HT_.out (by kernel_rfl)) (fun _ _ _ h => h) (Or.inl ⟨by rfl, ?_⟩) ?_ ?_
            rotate_left; (intro w'; go_simp; with_reducible rfl); rotate_left; (simp only [Act.put, zA, zZ, zS, i64_w, i32_w]; rfl)
            refine pure_ (i := 3) (N := some 70) (v := ?_) (a' := ?_) (zF 41 15) rfl rfl (any_of HT_.out (by kernel_rfl)) (fun _ _ _ h => h) (Or.inl ⟨by rfl, ?_⟩) ?_ ?_
            rotate_left; (intro w'; go_simp; with_reducible rfl); rotate_left; (simp only [Act.put, zA, zZ, zS, i64_w, i32_w]; rfl)
            refine pure_ (i := 5) (N := some 72) (v := ?_) (a' := ?_) (zF 41 47) rfl rfl (any_of HT_.out (by kernel_rfl)) (fun _ _ _ h => h) (Or.inl ⟨by rfl, ?_⟩) ?_ ?_
            rotate_left; (intro w'; go_simp; with_reducible rfl); rotate_left; (simp only [Act.put, zA, zZ, zS, i64_w, i32_w]; rfl)
            refine pure_ (i := 6) (N := some 73) (v := ?_) (a' := ?_) (zF 41 111) rfl rfl (any_of HT_.out (by kernel_rfl)) (fun _ _ _ h => h) (Or.inl ⟨by rfl, ?_⟩) ?_ ?_
            rotate_left; (intro w'; go_simp; with_reducible rfl); rotate_left; (simp only [Act.put, zA, zZ, zS, i64_w, i32_w]; rfl)
            refine pure_ (i := 7) (N := some 74) (v := ?_) (a' := ?_) (zF 41 239) rfl rfl (any_of HT_.out (by kernel_rfl)) (fun _ _ _ h => h) (Or.inl ⟨by rfl, ?_⟩) ?_ ?_
            rotate_left; (intro w'; go_simp; with_reducible rfl); rotate_left; (simp only [Act.put, zA, zZ, zS, i64_w, i32_w]; rfl)
            refine take_ (i := 4) (N := some 71) (v := ?_) (a' := ?_) (zF 41 255) rfl rfl (take_ofW HT_.out HW_.out (by kernel_rfl)) (fun _ _ _ h => h) (Or.inl ⟨by rfl, ?_⟩) hHeld ?_ ?_
            rotate_left; (rintro w' ⟨s0, s1, s2, s3, s4, s5, s6⟩; go_simp; with_reducible rfl); rotate_left; (simp only [Act.put, zA, zZ, zS, i64_w, i32_w]; rfl)
            refine take_ (i := 8) (N := some 75) (v := ?_) (a' := ?_) (zF 41 511) rfl rfl (take_ofW HT_.out HW_.out (by kernel_rfl)) (fun _ _ _ h => h) (Or.inl ⟨by rfl, ?_⟩) hHeld ?_ ?_
            rotate_left; (rintro w' ⟨s0, s1, s2, s3, s4, s5, s6⟩; go_simp; with_reducible rfl); rotate_left; (simp only [Act.put, zA, zZ, zS, i64_w, i32_w]; rfl)
            refine pure_ (i := 9) (N := some 76) (v := ?_) (a' := ?_) (zF 41 1023) rfl rfl (any_of HT_.out (by kernel_rfl)) (fun _ _ _ h => h) (Or.inl ⟨by rfl, ?_⟩) ?_ ?_
            rotate_left; (intro w'; go_simp; with_reducible rfl); rotate_left; (simp only [Act.put, zA, zZ, zS, i64_w, i32_w]; rfl)
            refine pure_ (i := 10) (N := some 77) (v := ?_) (a' := ?_) (zF 41 2047) rfl rfl (any_of HT_.out (by kernel_rfl)) (fun _ _ _ h => h) (Or.inl ⟨by rfl, ?_⟩) ?_ ?_
            rotate_left; (intro w'; go_simp; with_reducible rfl); rotate_left; (simp only [Act.put, zA, zZ, zS, i64_w, i32_w]; rfl)
            refine pure_ (i := 11) (N := some 78) (v := ?_) (a' := ?_) (zF 41 4095) rfl rfl (any_of HT_.out (by kernel_rfl)) (fun _ _ _ h => h) (Or.inl ⟨by rfl, ?_⟩) ?_ ?_
            rotate_left; (intro w'; go_simp; with_reducible rfl); rotate_left; (simp only [Act.put, zA, zZ, zS, i64_w, i32_w]; rfl)
            refine pure_ (i := 12) (N := some 79) (v := ?_) (a' := ?_) (zF 41 8191) rfl rfl (any_of HT_.out (by kernel_rfl)) (fun _ _ _ h => h) (Or.inl ⟨by rfl, ?_⟩) ?_ ?_
            rotate_left; (intro w'; go_simp; with_reducible rfl); rotate_left; (simp only [Act.put, zA, zZ, zS, i64_w, i32_w]; rfl)
            refine pure_ (i := 13) (N := some 80) (v := ?_) (a' := ?_) (zF 41 16383) rfl rfl (any_of HT_.out (by kernel_rfl)) (fun _ _ _ h => h) (Or.inl ⟨by rfl, ?_⟩) ?_ ?_
            rotate_left; (intro w'; go_simp; with_reducible rfl); rotate_left; (simp only [Act.put, zA, zZ, zS, i64_w, i32_w]; rfl)
            refine pure_ (i := 14) (N := some 81) (v := ?_) (a' := ?_) (zF 41 32767) rfl rfl (any_of HT_.out (by kernel_rfl)) (fun _ _ _ h => h) (Or.inl ⟨by rfl, ?_⟩) ?_ ?_
            rotate_left; (intro w'; go_simp; with_reducible rfl); rotate_left; (simp only [Act.put, zA, zZ, zS, i64_w, i32_w]; rfl)
            refine pure_ (i := 16) (N := some 83) (v := ?_) (a' := ?_) (zF 41 98303) rfl rfl (any_of HT_.out (by kernel_rfl)) (fun _ _ _ h => h) (Or.inl ⟨by rfl, ?_⟩) ?_ ?_
            rotate_left; (intro w'; go_simp; with_reducible rfl); rotate_left; (simp only [Act.put, zA, zZ, zS, i64_w, i32_w]; rfl)
            refine pure_ (i := 17) (N := some 84) (v := ?_) (a' := ?_) (zF 41 229375) rfl rfl (any_of HT_.out (by kernel_rfl)) (fun _ _ _ h => h) (Or.inl ⟨by rfl, ?_⟩) ?_ ?_
            rotate_left; (intro w'; go_simp; with_reducible rfl); rotate_left; (simp only [Act.put, zA, zZ, zS, i64_w, i32_w]; rfl)
            refine pure_ (i := 18) (N := some 85) (v := ?_) (a' := ?_) (zF 41 491519) rfl rfl (any_of HT_.out (by kernel_rfl)) (fun _ _ _ h => h) (Or.inl ⟨by rfl, ?_⟩) ?_ ?_
            rotate_left; (intro w'; go_simp; with_reducible rfl); rotate_left; (simp only [Act.put, zA, zZ, zS, i64_w, i32_w]; rfl)
            refine pure_ (i := 20) (N := some 87) (v := ?_) (a' := ?_) (zF 41 1540095) rfl rfl (any_of HT_.out (by kernel_rfl)) (fun _ _ _ h => h) (Or.inl ⟨by rfl, ?_⟩) ?_ ?_
            rotate_left; (intro w'; go_simp; with_reducible rfl); rotate_left; (simp only [Act.put, zA, zZ, zS, i64_w, i32_w]; rfl)
            refine pure_ (i := 21) (N := some 88) (v := ?_) (a' := ?_) (zF 41 3637247) rfl rfl (any_of HT_.out (by kernel_rfl)) (fun _ _ _ h => h) (Or.inl ⟨by rfl, ?_⟩) ?_ ?_
            rotate_left; (intro w'; go_simp; with_reducible rfl); rotate_left; (simp only [Act.put, zA, zZ, zS, i64_w, i32_w]; rfl)
            refine pure_ (i := 22) (N := some 89) (v := ?_) (a' := ?_) (zF 41 7831551) rfl rfl (any_of HT_.out (by kernel_rfl)) (fun _ _ _ h => h) (Or.inl ⟨by rfl, ?_⟩) ?_ ?_
            rotate_left; (intro w'; go_simp; with_reducible rfl); rotate_left; (simp only [Act.put, zA, zZ, zS, i64_w, i32_w]; rfl)
            refine take_ (i := 15) (N := some 82) (v := ?_) (a' := ?_) (zF 41 7864319) rfl rfl (take_ofW HT_.out HW_.out (by kernel_rfl)) (fun _ _ _ h => h) (Or.inl ⟨by rfl, ?_⟩) hHeld ?_ ?_
            rotate_left; (rintro w' ⟨s0, s1, s2, s3, s4, s5, s6⟩; go_simp; with_reducible rfl); rotate_left; (simp only [Act.put, zA, zZ, zS, i64_w, i32_w]; rfl)
            refine take_ (i := 19) (N := some 86) (v := ?_) (a' := ?_) (zF 41 8388607) rfl rfl (take_ofW HT_.out HW_.out (by kernel_rfl)) (fun _ _ _ h => h) (Or.inl ⟨by rfl, ?_⟩) hHeld ?_ ?_
            rotate_left; (rintro w' ⟨s0, s1, s2, s3, s4, s5, s6⟩; go_simp; with_reducible rfl); rotate_left; (simp only [Act.put, zA, zZ, zS, i64_w, i32_w]; rfl)
            refine take_ (i := 23) (N := some 90) (v := ?_) (a' := ?_) (zF 41 16777215) rfl rfl (take_ofW HT_.out HW_.out (by kernel_rfl)) (fun _ _ _ h => h) (Or.inl ⟨by rfl, ?_⟩) hHeld ?_ ?_
            rotate_left; (rintro w' ⟨s0, s1, s2, s3, s4, s5, s6⟩; go_simp; with_reducible rfl); rotate_left; (simp only [Act.put, zA, zZ, zS, i64_w, i32_w]; rfl)
            refine pure_ (i := 24) (N := some 91) (v := ?_) (a' := ?_) (zF 41 33554431) rfl rfl (any_of HT_.out (by kernel_rfl)) (fun _ _ _ h => h) (Or.inl ⟨by rfl, ?_⟩) ?_ ?_
            rotate_left; (intro w'; go_simp; with_reducible rfl); rotate_left; (simp only [Act.put, zA, zZ, zS, i64_w, i32_w]; rfl)
            refine one_ (i := 25) (N := some 92) (zF 41 67108863) rfl rfl (one_of HT_.out (by kernel_rfl)) (by decide) (fun K hK => ?_)
            refine goes_ Tryd.func16 (by kernel_rfl) rfl #[.slice Ai ni ci, .slice (some ⟨gq, 0, none⟩) ni n] (by rfl) rfl rfl (by (try simp only [List.map_toArray, List.map_cons, List.map_nil]); first | done | rfl | (simp [Act.eval, *]; done)) ?_
            refine (HCI.out _ HBZ.out HMd.out.bq).mono ?_
            rintro e wc ⟨rfl, hbc⟩
            refine ⟨_, rfl, ?_⟩
            have hbw := drawn_below hbc
            have HMd' := Aside0.mk (HMd.out.on hbw)
            have HQ' := Aside0.mk (show (fun w' => w'.cell? ⟨gr, k * 7 + 4, none⟩ = some (.int .i64 cmd) ∧ w'.cell? ⟨gr, k * 7 + 5, none⟩ = some (.slice Ai ni ci) ∧ w'.cell? ⟨gr, k * 7 + 6, none⟩ = some (.slice Ao nd co) ∧ w'.cell? ⟨gm, 3, none⟩ = some (.int .i64 (ni : Int)) ∧ w'.cell? ⟨gm, 4, none⟩ = some (.int .i64 cmd) ∧ w'.cell? ⟨gm, 5, none⟩ = some (.slice (some ⟨gq, 0, none⟩) n n) ∧ w'.cell? ⟨gm, 6, none⟩ = some (.slice Ad nd cd)) wc from ⟨cell_on hbw HQ.out.1, cell_on hbw HQ.out.2.1, cell_on hbw HQ.out.2.2.1, cell_on hbw HQ.out.2.2.2.1, cell_on hbw HQ.out.2.2.2.2.1, cell_on hbw HQ.out.2.2.2.2.2.1, cell_on hbw HQ.out.2.2.2.2.2.2⟩)
            have HBZ' := Aside0.mk (show Below wz.heap.size wz wc from below_step HBZ.out hbw)
            clear hbc hbw HMd HQ HBZ
            have HMd := HMd'
            have HQ := HQ'
            have HBZ := HBZ'
            clear HMd' HQ' HBZ'
            refine hK.out _ _ HQ.out (fun hHeld => ?_)
            clear hK K
            refine norm_ (a' := ?_) ?_ ?_
            rotate_left
            · show Act.put _ (some 92) _ = _
              simp only [Act.put, zA, zZ, zS, i64_w, i32_w]
              rfl
            refine pure_ (i := 26) (N := some 93) (v := ?_) (a' := ?_) (zF 41 134217727) rfl rfl (any_of HT_.out (by kernel_rfl)) (fun _ _ _ h => h) (Or.inl ⟨by rfl, ?_⟩) ?_ ?_
            rotate_left; (intro w'; go_simp; with_reducible rfl); rotate_left; (simp only [Act.put, zA, zZ, zS, i64_w, i32_w]; rfl)
            refine pure_ (i := 27) (N := some 94) (v := ?_) (a' := ?_) (zF 41 268435455) rfl rfl (any_of HT_.out (by kernel_rfl)) (fun _ _ _ h => h) (Or.inl ⟨by rfl, ?_⟩) ?_ ?_
            rotate_left; (intro w'; go_simp; with_reducible rfl); rotate_left; (simp only [Act.put, zA, zZ, zS, i64_w, i32_w]; rfl)
            refine pure_ (i := 28) (N := some 95) (v := ?_) (a' := ?_) (zF 41 536870911) rfl rfl (any_of HT_.out (by kernel_rfl)) (fun _ _ _ h => h) (Or.inl ⟨by rfl, ?_⟩) ?_ ?_
            rotate_left; (intro w'; go_simp; with_reducible rfl); rotate_left; (simp only [Act.put, zA, zZ, zS, i64_w, i32_w]; rfl)
            refine pure_ (i := 29) (N := some 96) (v := ?_) (a' := ?_) (zF 41 1073741823) rfl rfl (any_of HT_.out (by kernel_rfl)) (fun _ _ _ h => h) (Or.inl ⟨by rfl, ?_⟩) ?_ ?_
            rotate_left; (intro w'; go_simp; with_reducible rfl); rotate_left; (simp only [Act.put, zA, zZ, zS, i64_w, i32_w]; rfl)
            refine pure_ (i := 30) (N := some 97) (v := ?_) (a' := ?_) (zF 41 2147483647) rfl rfl (any_of HT_.out (by kernel_rfl)) (fun _ _ _ h => h) (Or.inl ⟨by rfl, ?_⟩) ?_ ?_
            rotate_left; (intro w'; go_simp; with_reducible rfl); rotate_left; (simp only [Act.put, zA, zZ, zS, i64_w, i32_w]; rfl)
            refine pure_ (i := 31) (N := some 98) (v := ?_) (a' := ?_) (zF 41 4294967295) rfl rfl (any_of HT_.out (by kernel_rfl)) (fun _ _ _ h => h) (Or.inl ⟨by rfl, ?_⟩) ?_ ?_
            rotate_left; (intro w'; go_simp; with_reducible rfl); rotate_left; (simp only [Act.put, zA, zZ, zS, i64_w, i32_w]; rfl)
            refine pure_ (i := 32) (N := some 99) (v := ?_) (a' := ?_) (zF 41 8589934591) rfl rfl (any_of HT_.out (by kernel_rfl)) (fun _ _ _ h => h) (Or.inl ⟨by rfl, ?_⟩) ?_ ?_
            rotate_left; (intro w'; go_simp; with_reducible rfl); rotate_left; (simp only [Act.put, zA, zZ, zS, i64_w, i32_w]; rfl)
            refine pure_ (i := 34) (N := some 101) (v := ?_) (a' := ?_) (zF 41 25769803775) rfl rfl (any_of HT_.out (by kernel_rfl)) (fun _ _ _ h => h) (Or.inl ⟨by rfl, ?_⟩) ?_ ?_
            rotate_left; (intro w'; go_simp; with_reducible rfl); rotate_left; (simp only [Act.put, zA, zZ, zS, i64_w, i32_w]; rfl)
            refine pure_ (i := 35) (N := some 102) (v := ?_) (a' := ?_) (zF 41 60129542143) rfl rfl (any_of HT_.out (by kernel_rfl)) (fun _ _ _ h => h) (Or.inl ⟨by rfl, ?_⟩) ?_ ?_
            rotate_left; (intro w'; go_simp; with_reducible rfl); rotate_left; (simp only [Act.put, zA, zZ, zS, i64_w, i32_w]; rfl)
            refine pure_ (i := 36) (N := some 103) (v := ?_) (a' := ?_) (zF 41 128849018879) rfl rfl (any_of HT_.out (by kernel_rfl)) (fun _ _ _ h => h) (Or.inl ⟨by rfl, ?_⟩) ?_ ?_
            rotate_left; (intro w'; go_simp; with_reducible rfl); rotate_left; (simp only [Act.put, zA, zZ, zS, i64_w, i32_w]; rfl)
            refine take_ (i := 33) (N := some 100) (v := ?_) (a' := ?_) (zF 41 137438953471) rfl rfl (take_ofW HT_.out HW_.out (by kernel_rfl)) (fun _ _ _ h => h) (Or.inl ⟨by rfl, ?_⟩) hHeld ?_ ?_
            rotate_left; (rintro w' ⟨s0, s1, s2, s3, s4, s5, s6⟩; go_simp; with_reducible rfl); rotate_left; (simp only [Act.put, zA, zZ, zS, i64_w, i32_w]; rfl)
            refine take_ (i := 37) (N := some 104) (v := ?_) (a' := ?_) (zF 41 274877906943) rfl rfl (take_ofW HT_.out HW_.out (by kernel_rfl)) (fun _ _ _ h => h) (Or.inl ⟨by rfl, ?_⟩) hHeld ?_ ?_
            rotate_left; (rintro w' ⟨s0, s1, s2, s3, s4, s5, s6⟩; go_simp; with_reducible rfl); rotate_left; (simp only [Act.put, zA, zZ, zS, i64_w, i32_w]; rfl)
            refine one_ (i := 38) (N := some 105) (zF 41 549755813887) rfl rfl (one_of HT_.out (by kernel_rfl)) (by decide) (fun K hK => ?_)
            refine goes_ Tryd.func17 (by kernel_rfl) rfl #[.slice Ao nd co, .slice Ad nd cd] (by rfl) rfl rfl (by (try simp only [List.map_toArray, List.map_cons, List.map_nil]); first | done | rfl | (simp [Act.eval, *]; done)) ?_
            refine (HCB.out _ HBZ.out HMd.out.rd).mono ?_
            rintro e wd ⟨rfl, hbc⟩
            refine ⟨_, rfl, ?_⟩
            have hbw := drawn_below hbc
            have HMd' := Aside0.mk (HMd.out.on hbw)
            have HQ' := Aside0.mk (show (fun w' => w'.cell? ⟨gr, k * 7 + 4, none⟩ = some (.int .i64 cmd) ∧ w'.cell? ⟨gr, k * 7 + 5, none⟩ = some (.slice Ai ni ci) ∧ w'.cell? ⟨gr, k * 7 + 6, none⟩ = some (.slice Ao nd co) ∧ w'.cell? ⟨gm, 3, none⟩ = some (.int .i64 (ni : Int)) ∧ w'.cell? ⟨gm, 4, none⟩ = some (.int .i64 cmd) ∧ w'.cell? ⟨gm, 5, none⟩ = some (.slice (some ⟨gq, 0, none⟩) n n) ∧ w'.cell? ⟨gm, 6, none⟩ = some (.slice Ad nd cd)) wd from ⟨cell_on hbw HQ.out.1, cell_on hbw HQ.out.2.1, cell_on hbw HQ.out.2.2.1, cell_on hbw HQ.out.2.2.2.1, cell_on hbw HQ.out.2.2.2.2.1, cell_on hbw HQ.out.2.2.2.2.2.1, cell_on hbw HQ.out.2.2.2.2.2.2⟩)
            have HBZ' := Aside0.mk (show Below wz.heap.size wz wd from below_step HBZ.out hbw)
            clear hbc hbw HMd HQ HBZ
            have HMd := HMd'
            have HQ := HQ'
            have HBZ := HBZ'
            clear HMd' HQ' HBZ'
            refine hK.out _ _ HQ.out (fun hHeld => ?_)
            clear hK K
            refine norm_ (a' := ?_) ?_ ?_
            rotate_left
            · show Act.put _ (some 105) _ = _
              simp only [Act.put, zA, zZ, zS, i64_w, i32_w]
              rfl
            refine pure_ (i := 39) (N := some 106) (v := ?_) (a' := ?_) (zF 41 1099511627775) rfl rfl (any_of HT_.out (by kernel_rfl)) (fun _ _ _ h => h) (Or.inl ⟨by rfl, ?_⟩) ?_ ?_
            rotate_left; (intro w'; go_simp; with_reducible rfl); rotate_left; (simp only [Act.put, zA, zZ, zS, i64_w, i32_w]; rfl)
            refine pure_ (i := 40) (N := some 107) (v := ?_) (a' := ?_) (zF 41 2199023255551) rfl rfl (any_of HT_.out (by kernel_rfl)) (fun _ _ _ h => h) (Or.inl ⟨by rfl, ?_⟩) ?_ ?_
            rotate_left; (intro w'; go_simp; with_reducible rfl); rotate_left; (simp only [Act.put, zA, zZ, zS, i64_w, i32_w]; rfl)
            refine done_ (done_of HT_.out (by kernel_rfl)) ?_
            clear hHeld qa qb qc q3 q4 q5 q6
            go_wp2_with fail
            go_roundw
            case rel =>
              exact ⟨_, k + 1, T + 2, p1, s1, _, vp1, ve1, dn ++ [q], rfl, ⟨by first | rfl | (rw [hwr]; rfl)⟩, ⟨by omega⟩, ⟨by have := HTT.out; omega⟩, HMd, HS1, ⟨by rw [List.length_append, HDN.out]; rfl⟩, HA2⟩
            case measure =>
              (try rw [hwr])
              simp [intOf]
              omega
          · have tlt : decide (J < (L4 : Int)) = false := decide_eq_false (by have := HJ.out; omega)
            have B6 := Aside0.mk (show Below w.heap.size w wr from below_step B4.out (HB3E.out.trans (far_lo HM.out.b HLE0.out HGM.out HGQ.out)))
            clear HM
            go_wp2_with fail
            refine (Ma.awake_ _).mono ?_
            rintro e w9 ⟨rfl, hb9⟩
            have B9 := Aside0.mk (below_step B6.out hb9)
            clear hb9
            go_wp2
            go_ret
            exact ⟨rfl, B9.out⟩
theorem walkR (a0 a1 : Int) (a2 : Option Addr) (len2 cap2 : Nat) (z2 : List Int) (w : World) (hLD : Lib.Utf8Tabs 0 1 w) (w0 : (Lit.int .i64 a0).wf = true) (w1 : (Lit.int .i64 a1).wf = true) (w2 : (a2 = none ∧ len2 = 0 ∧ cap2 = 0 ∧ z2 = []) ∨ ∃ x, a2 = some x ∧ len2 ≤ cap2 ∧ cap2 ≤ maxLen ∧ z2.length = cap2 ∧ (∀ i, i < z2.length → w.cell? (x.add i) = some (.int .u8 (z2.getD i 0))) ∧ ∀ n ∈ z2, (Lit.int .u8 n).wf = true) (y2 : len2 * 1 ≤ 140737488351232) :
    Calls Tryd.prog 6 #[.int .i64 a0, .int .i64 a1, .slice a2 len2 cap2] w fun e w' => e = .returned (.bool true) ∧ Below w.heap.size w w' := by
  obtain ⟨l2, rfl, hr2, hm2, hw2, hc2⟩ := ReadsInt.ofRowC w2
  have m0 : IntKind.u8.min = 0 := rfl
  have m1 : IntKind.u8.max = 255 := rfl
  exact walk a0 a1 _ _ l2 w (Kd.C_of_reads (d := (0 : Int)) (h1 := fun _ => rfl) hr2) hc2 (fun x hx => by
    have h_ := hw2 x hx
    simp [Lit.wf, m0, m1] at h_
    omega) hLD
def uren : Go.Shelf.Ren := ⟨fun n => n, fun | 119 => 103 | 138 => 105 | 139 => 106 | n => n, fun | 3 => 0 | 4 => 1 | n => n⟩
theorem utypes : U8Types Tryd.prog uren := ⟨Tryd.underlying5, Tryd.underlying103, Tryd.underlying105, Tryd.underlying106⟩
theorem uextra : U8Extra Tryd.prog uren := ⟨by kernel_rfl, by kernel_rfl, by kernel_rfl, by kernel_rfl, by kernel_rfl, by kernel_rfl, by kernel_rfl⟩
end Go.Proofs.YtmpmfdghdaofhaaDoor.AdvH
