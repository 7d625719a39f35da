/- Texts of this claim, joined; what isn't needed is left out (wip/slim.py). -/
import Derived.Test.YtmpmfdghdaofhaaDoorZH18
import Derived.Test.YtmpmfdghdaofhaaDoorZH19
import Derived.Test.YtmpmfdghdaofhaaDoorZH20
import Derived.Deep.OwnRows
namespace Go.Proofs.YtmpmfdghdaofhaaDoor.Sp
set_option linter.unusedVariables false
set_option linter.unusedSimpArgs false
open Go Go.RowKit Go.Proofs.YtmpmfdghdaofhaaDoor.Pm Go.Proofs.YtmpmfdghdaofhaaDoorW.PrintWords Go.Proofs.YtmpmfdghdaofhaaDoorW.PrintLast Go.Proofs.YtmpmfdghdaofhaaDoorW.PrintMore
set_option maxHeartbeats 8000000 in
set_option maxRecDepth 100000 in
theorem sa_disp (B : Nat) (w0 w : World) (gm gq n T : Nat) (D : Int) (s : SM) (vd vp : Value) (ve : VE) (h : MV B w0 w gm gq n D T s vd vp ve) (b nx : Int) (hb0 : 0 ≤ b) (hb1 : b < 256) (hbig : T ≤ 1000000) (hst : 1 ≤ s.st ∧ s.st ≤ 13) (hpl : s.cnt ≤ n) (hnb : n ≤ 1000000) (hn0 : 0 < n) :
    Calls Tryd.prog 39 #[.pointer (some ⟨gm, 0, none⟩), .int .i64 4, .int .u8 b, .int .i64 nx] w fun e w' => e = .returned (.tuple #[]) ∧ ∃ v8, MV B w0 w' gm gq n D (T + 1) (sdisp n s b) vd vp ⟨v8, ve.e ++ [sdev (sdisp n s b)]⟩ := by
  have H1 := Aside0.mk (disp_ B w0 w gm gq n T D s vd vp ve h b hb0 hb1 hbig hst hpl hnb hn0)
  clear h hb0 hb1 hbig hst hpl hnb hn0
  go_enter Tryd.func39, Tryd.ntmps39
  go_wp2_with fail
  refine H1.out.mono ?_
  rintro e w1 ⟨rfl, h1⟩
  have H2 := Aside0.mk h1
  clear h1
  go_wp2
  go_end0
  exact ⟨rfl, H2.out⟩
def sact (n : Nat) (D a nx : Int) (s : SM) (b : Int) : SM :=
  if a = 0 then s else if a = 1 then sclear s else if a = 2 then (if nx = 14 then snew s b else sinter s b) else if a = 3 then sprefix s b else if a = 4 then sdisp n s b
  else if a = 5 then sexec s b else if a = 6 then sstart s b else if a = 7 then sput D s b else if a = 8 then sparam n s b else sexec s b
def sev (n : Nat) (a : Int) (s : SM) (b : Int) : List EV := if a = 4 then [sdev (sdisp n s b)] else if a = 5 then [⟨1, 0, b, 0, [], []⟩] else if a = 9 then [⟨0, b, 0, 0, [], []⟩] else []
theorem ve_nil (ve : VE) : (⟨ve.v, ve.e ++ []⟩ : VE) = ve := by rw [List.append_nil]
theorem sa_act (B : Nat) (w0 w : World) (gm gq n T : Nat) (D : Int) (s : SM) (vd vp : Value) (ve : VE) (h : MV B w0 w gm gq n D T s vd vp ve) (a b nx : Int) (hb0 : 0 ≤ b) (hb1 : b < 256) (ha0 : 0 ≤ a) (ha9 : a ≤ 9) (hbig : T ≤ 1000000) (hpl : s.cnt ≤ n) (hnb : n ≤ 1000000) (hn0 : 0 < n) (h4 : a = 4 → 1 ≤ s.st ∧ s.st ≤ 13) (h8 : a = 8 → 48 ≤ b ∧ b ≤ 59) :
    Calls Tryd.prog 39 #[.pointer (some ⟨gm, 0, none⟩), .int .i64 a, .int .u8 b, .int .i64 nx] w fun e w' => e = .returned (.tuple #[]) ∧ ∃ vd' vp' v8, MV B w0 w' gm gq n D (T + 1) (sact n D a nx s b) vd' vp' ⟨v8, ve.e ++ sev n a s b⟩ := by
  have up : ∀ (W : World) (t : SM) (x y : Value), MV B w0 W gm gq n D T t x y ve → MV B w0 W gm gq n D (T + 1) t x y ⟨ve.v, ve.e ++ []⟩ := fun W t x y hh => by rw [ve_nil]; exact hh.more (Nat.le_succ T)
  have up2 : ∀ (W : World) (t : SM) (x y : Value), MV B w0 W gm gq n D (T + 1) t x y ve → MV B w0 W gm gq n D (T + 1) t x y ⟨ve.v, ve.e ++ []⟩ := fun W t x y hh => by rw [ve_nil]; exact hh
  rcases (show a = 0 ∨ a = 1 ∨ a = 2 ∨ a = 3 ∨ a = 4 ∨ a = 5 ∨ a = 6 ∨ a = 7 ∨ a = 8 ∨ a = 9 by omega) with rfl | rfl | rfl | rfl | rfl | rfl | rfl | rfl | rfl | rfl
  · exact (sa_none B w0 w gm gq n T D s vd vp ve h b nx hb0 hb1).mono (fun e w' hh => ⟨hh.1, _, _, _, up _ _ _ _ hh.2⟩)
  · exact (sa_clear B w0 w gm gq n T D s vd vp ve h b nx hb0 hb1 hn0).mono (fun e w' hh => ⟨hh.1, _, _, _, up _ _ _ _ hh.2⟩)
  · show Calls _ _ _ _ fun e w' => _ ∧ ∃ vd' vp' v8, MV B w0 w' gm gq n D (T + 1) (if nx = 14 then _ else _) vd' vp' ⟨v8, ve.e ++ []⟩
    by_cases hs2 : nx = 14
    · rw [if_pos hs2]
      subst hs2
      exact (sa_new B w0 w gm gq n T D s vd vp ve h b hb0 hb1).mono (fun e w' hh => ⟨hh.1, by obtain ⟨_, v, hv⟩ := hh; exact ⟨_, _, _, up2 _ _ _ _ hv⟩⟩)
    · rw [if_neg hs2]
      exact (sa_inter B w0 w gm gq n T D s vd vp ve h b nx hb0 hb1 hs2).mono (fun e w' hh => ⟨hh.1, _, _, _, up _ _ _ _ hh.2⟩)
  · exact (sa_prefix B w0 w gm gq n T D s vd vp ve h b nx hb0 hb1).mono (fun e w' hh => ⟨hh.1, _, _, _, up _ _ _ _ hh.2⟩)
  · exact (sa_disp B w0 w gm gq n T D s vd vp ve h b nx hb0 hb1 hbig (h4 rfl) hpl hnb hn0).mono (fun e w' hh => ⟨hh.1, by obtain ⟨_, v, hv⟩ := hh; exact ⟨_, _, _, hv⟩⟩)
  · exact (sa_exec B w0 w gm gq n T D s vd vp ve h b nx hb0 hb1 hbig).mono (fun e w' hh => ⟨hh.1, by obtain ⟨_, v, hv⟩ := hh; exact ⟨_, _, _, hv⟩⟩)
  · exact (sa_start B w0 w gm gq n T D s vd vp ve h b nx hb0 hb1).mono (fun e w' hh => ⟨hh.1, by obtain ⟨_, v, hv⟩ := hh; exact ⟨_, _, _, up _ _ _ _ hv⟩⟩)
  · exact (sa_put B w0 w gm gq n T D s vd vp ve h b nx hb0 hb1 hbig).mono (fun e w' hh => ⟨hh.1, by obtain ⟨_, v, hv⟩ := hh; exact ⟨_, _, _, up2 _ _ _ _ hv⟩⟩)
  · exact (sa_param B w0 w gm gq n T D s vd vp ve h b nx hb0 hb1 (h8 rfl).1 (h8 rfl).2 hnb).mono (fun e w' hh => ⟨hh.1, _, _, _, up _ _ _ _ hh.2⟩)
  · exact (sa_print B w0 w gm gq n T D s vd vp ve h b nx hb0 hb1 hbig).mono (fun e w' hh => ⟨hh.1, by obtain ⟨_, v, hv⟩ := hh; exact ⟨_, _, _, hv⟩⟩)
def smid (nx a : Int) (s : SM) : SM := if s.st = 8 then (if nx = 8 then s else sclear s) else if s.st = 4 ∧ nx = 7 ∧ a = 7 then sstart s 0 else s
theorem smid_st (nx a : Int) (s : SM) : (smid nx a s).st = s.st := by
  unfold smid
  split
  · split <;> rfl
  · split <;> rfl
theorem smid_cnt (nx a : Int) (s : SM) : (smid nx a s).cnt ≤ s.cnt := by
  unfold smid
  split
  · split
    · exact Nat.le_refl _
    · exact Nat.zero_le _
  · split <;> exact Nat.le_refl _
def sadvG (n : Nat) (D nx a : Int) (s : SM) (b : Int) : SM :=
  if s.st = 8 ∧ nx = 8 ∧ b = 27 then sexec s b else ⟨(sact n D a nx (smid nx a s) b).ps, (sact n D a nx (smid nx a s) b).da, (sact n D a nx (smid nx a s) b).pt, (sact n D a nx (smid nx a s) b).cnt, (sact n D a nx (smid nx a s) b).cmd, nx⟩
def sadvE (n : Nat) (nx a : Int) (s : SM) (b : Int) : List EV := if s.st = 8 ∧ nx = 8 ∧ b = 27 then [⟨1, 0, b, 0, [], []⟩] else sev n a (smid nx a s) b
set_option maxHeartbeats 8000000 in
set_option maxRecDepth 100000 in
theorem sadv_ (B : Nat) (w0 w : World) (gm gq n T : Nat) (D : Int) (s : SM) (vd vp : Value) (ve : VE) (h : MV B w0 w gm gq n D T s vd vp ve) (b nx a : Int) (hb0 : 0 ≤ b) (hb1 : b < 256) (ha : 0 ≤ a ∧ a ≤ 9) (hbig : T ≤ 1000000) (hc : s.cnt ≤ n) (hn : n ≤ 1000000 ∧ 0 < n) (h48 : (a = 4 → 1 ≤ s.st ∧ s.st ≤ 13) ∧ (a = 8 → 48 ≤ b ∧ b ≤ 59)) (hs14 : s.st ≠ 14) (htr : ∀ w, Calls Tryd.prog 8 #[.int .i64 s.st, .int .u8 b] w fun e w' => e = .returned (.tuple #[.int .i64 nx, .int .i64 a]) ∧ Below w.heap.size w w') :
    Calls Tryd.prog 15 #[.pointer (some ⟨gm, 0, none⟩), .int .u8 b] w fun e w' => e = .returned (.int .i64 a) ∧ ∃ vd' vp' v8, MV B w0 w' gm gq n D (T + 1) (sadvG n D nx a s b) vd' vp' ⟨v8, ve.e ++ sadvE n nx a s b⟩ := by
  have H1 := Aside0.mk h
  have HTR := Aside0.mk htr
  have HB := Aside0.mk (show 0 ≤ b ∧ b < 256 from ⟨hb0, hb1⟩)
  have HA := Aside0.mk ha
  have HBG := Aside0.mk hbig
  have HC := Aside0.mk hc
  have HN := Aside0.mk hn
  have H48 := Aside0.mk h48
  have t14 : (s.st == 14) = false := by simpa using hs14
  obtain ⟨s1, hs1⟩ : ∃ t, t = smid nx a s := ⟨_, rfl⟩
  have HST1 := Aside0.mk (show s1.st = s.st by rw [hs1]; exact smid_st nx a s)
  have x2 := h.c2
  clear h htr hb0 hb1 ha hbig hc hn h48 hs14
  by_cases h8 : s.st = 8
  · have t8 : (s.st == 8) = true := by simpa using h8
    have t4 : (s.st == 4) = false := by simp; omega
    by_cases hn8 : nx = 8
    · have tn8 : (nx == 8) = true := by simpa using hn8
      have un8 : (nx != 8) = false := by simpa using hn8
      by_cases h27 : b = 27
      · have t27 : (b == 27) = true := by simpa using h27
        have HX := Aside0.mk (show s.st = 8 ∧ nx = 8 ∧ b = 27 from ⟨h8, hn8, h27⟩)
        clear h8 hn8 h27 hs1
        go_enter Tryd.func15, Tryd.ntmps15
        go_wp2_with fail
        refine (HTR.out _).mono ?_
        rintro e wt ⟨rfl, hbt⟩
        have H2 := Aside0.mk (H1.out.on hbt)
        clear hbt H1 x2
        have x2 := H2.out.c2
        go_wp2_with fail
        refine (sa_exec B w0 wt gm gq n T D s vd vp ve H2.out b nx HB.out.1 HB.out.2 HBG.out).mono ?_
        rintro e wz ⟨rfl, v8', hz⟩
        have HZ := Aside0.mk hz
        clear hz
        go_wp2
        go_ret
        refine ⟨rfl, vd, vp, v8', ?_⟩
        unfold sadvG sadvE
        rw [if_pos HX.out, if_pos HX.out]
        exact HZ.out
      · have t27 : (b == 27) = false := by simpa using h27
        have HX := Aside0.mk (show ¬ (s.st = 8 ∧ nx = 8 ∧ b = 27) from fun h => h27 h.2.2)
        have HS1 := Aside0.mk (show s1 = smid nx a s from hs1)
        have E1 := Aside0.mk (show s1 = s by rw [hs1]; unfold smid; rw [if_pos h8, if_pos hn8])
        clear h8 hn8 h27 hs1
        go_enter Tryd.func15, Tryd.ntmps15
        go_wp2_with fail
        refine (HTR.out _).mono ?_
        rintro e wt ⟨rfl, hbt⟩
        have H2 := Aside0.mk (H1.out.on hbt)
        clear hbt H1 x2
        have x2 := H2.out.c2
        have H3 := Aside0.mk (show MV B w0 wt gm gq n D T s1 vd vp ve by rw [E1.out]; exact H2.out)
        clear H2
        go_wp2_with fail
        refine (sa_act B w0 _ gm gq n T D s1 _ vp ve H3.out a b nx HB.out.1 HB.out.2 HA.out.1 HA.out.2 HBG.out (by rw [HS1.out]; exact Nat.le_trans (smid_cnt nx a s) HC.out) HN.out.1 HN.out.2 (by rw [HST1.out]; exact H48.out.1) H48.out.2).mono ?_
        rintro e wz ⟨rfl, vd', vp', v8', hz⟩
        have HZ := Aside0.mk hz
        clear hz
        have z2 := HZ.out.c2
        have zf := HZ.out.free 2
        have HY := Aside0.mk (HZ.out.set_st nx)
        go_wp2
        go_ret
        refine ⟨rfl, vd', vp', v8', ?_⟩
        unfold sadvG sadvE
        rw [if_neg HX.out, if_neg HX.out, ← HS1.out]
        exact HY.out
    · have tn8 : (nx == 8) = false := by simpa using hn8
      have un8 : (nx != 8) = true := by simpa using hn8
      have HX := Aside0.mk (show ¬ (s.st = 8 ∧ nx = 8 ∧ b = 27) from fun h => hn8 h.2.1)
      have HS1 := Aside0.mk (show s1 = smid nx a s from hs1)
      have E1 := Aside0.mk (show s1 = sclear s by rw [hs1]; unfold smid; rw [if_pos h8, if_neg hn8])
      clear h8 hn8 hs1
      go_enter Tryd.func15, Tryd.ntmps15
      go_wp2_with fail
      refine (HTR.out _).mono ?_
      rintro e wt ⟨rfl, hbt⟩
      have H2 := Aside0.mk (H1.out.on hbt)
      clear hbt H1 x2
      have x2 := H2.out.c2
      go_wp2_with fail
      refine (clear_ B w0 wt gm gq n T D s vd vp ve H2.out HN.out.2).mono ?_
      rintro e w3 ⟨rfl, h3⟩
      have H3 := Aside0.mk (show MV B w0 w3 gm gq n D T s1 vd vp ve by rw [E1.out]; exact h3)
      clear h3 H2 x2
      have x2 : w3.cell? ⟨gm, 2, none⟩ = some (.int .i64 s.st) := by rw [← HST1.out]; exact H3.out.c2
      go_wp2_with fail
      refine (sa_act B w0 _ gm gq n T D s1 _ vp ve H3.out a b nx HB.out.1 HB.out.2 HA.out.1 HA.out.2 HBG.out (by rw [HS1.out]; exact Nat.le_trans (smid_cnt nx a s) HC.out) HN.out.1 HN.out.2 (by rw [HST1.out]; exact H48.out.1) H48.out.2).mono ?_
      rintro e wz ⟨rfl, vd', vp', v8', hz⟩
      have HZ := Aside0.mk hz
      clear hz
      have z2 := HZ.out.c2
      have zf := HZ.out.free 2
      have HY := Aside0.mk (HZ.out.set_st nx)
      go_wp2
      go_ret
      refine ⟨rfl, vd', vp', v8', ?_⟩
      unfold sadvG sadvE
      rw [if_neg HX.out, if_neg HX.out, ← HS1.out]
      exact HY.out
  · have t8 : (s.st == 8) = false := by simpa using h8
    have HX := Aside0.mk (show ¬ (s.st = 8 ∧ nx = 8 ∧ b = 27) from fun h => h8 h.1)
    by_cases h4 : s.st = 4
    · have t4 : (s.st == 4) = true := by simpa using h4
      by_cases h7 : nx = 7
      · have t7 : (nx == 7) = true := by simpa using h7
        by_cases ha7 : a = 7
        · have ta7 : (a == 7) = true := by simpa using ha7
          have HS1 := Aside0.mk (show s1 = smid nx a s from hs1)
          have E1 := Aside0.mk (show s1 = sstart s 0 by rw [hs1]; unfold smid; rw [if_neg h8, if_pos ⟨h4, h7, ha7⟩])
          clear h8 h4 h7 ha7 hs1
          go_enter Tryd.func15, Tryd.ntmps15
          go_wp2_with fail
          refine (HTR.out _).mono ?_
          rintro e wt ⟨rfl, hbt⟩
          have H2 := Aside0.mk (H1.out.on hbt)
          clear hbt H1 x2
          have x2 := H2.out.c2
          go_wp2_with fail
          refine (sa_start B w0 wt gm gq n T D s vd vp ve H2.out 0 nx (by decide) (by decide)).mono ?_
          rintro e w3 ⟨rfl, vd2, h3⟩
          have H3 := Aside0.mk (show MV B w0 w3 gm gq n D T s1 vd2 vp ve by rw [E1.out]; exact h3)
          clear h3 H2 x2
          have x2 : w3.cell? ⟨gm, 2, none⟩ = some (.int .i64 s.st) := by rw [← HST1.out]; exact H3.out.c2
          go_wp2_with fail
          refine (sa_act B w0 _ gm gq n T D s1 _ vp ve H3.out a b nx HB.out.1 HB.out.2 HA.out.1 HA.out.2 HBG.out (by rw [HS1.out]; exact Nat.le_trans (smid_cnt nx a s) HC.out) HN.out.1 HN.out.2 (by rw [HST1.out]; exact H48.out.1) H48.out.2).mono ?_
          rintro e wz ⟨rfl, vd', vp', v8', hz⟩
          have HZ := Aside0.mk hz
          clear hz
          have z2 := HZ.out.c2
          have zf := HZ.out.free 2
          have HY := Aside0.mk (HZ.out.set_st nx)
          go_wp2
          go_ret
          refine ⟨rfl, vd', vp', v8', ?_⟩
          unfold sadvG sadvE
          rw [if_neg HX.out, if_neg HX.out, ← HS1.out]
          exact HY.out
        · have ta7 : (a == 7) = false := by simpa using ha7
          have HS1 := Aside0.mk (show s1 = smid nx a s from hs1)
          have E1 := Aside0.mk (show s1 = s by rw [hs1]; unfold smid; rw [if_neg h8, if_neg (fun h => ha7 h.2.2)])
          clear h8 h4 h7 ha7 hs1
          go_enter Tryd.func15, Tryd.ntmps15
          go_wp2_with fail
          refine (HTR.out _).mono ?_
          rintro e wt ⟨rfl, hbt⟩
          have H2 := Aside0.mk (H1.out.on hbt)
          clear hbt H1 x2
          have x2 := H2.out.c2
          have H3 := Aside0.mk (show MV B w0 wt gm gq n D T s1 vd vp ve by rw [E1.out]; exact H2.out)
          clear H2
          go_wp2_with fail
          refine (sa_act B w0 _ gm gq n T D s1 _ vp ve H3.out a b nx HB.out.1 HB.out.2 HA.out.1 HA.out.2 HBG.out (by rw [HS1.out]; exact Nat.le_trans (smid_cnt nx a s) HC.out) HN.out.1 HN.out.2 (by rw [HST1.out]; exact H48.out.1) H48.out.2).mono ?_
          rintro e wz ⟨rfl, vd', vp', v8', hz⟩
          have HZ := Aside0.mk hz
          clear hz
          have z2 := HZ.out.c2
          have zf := HZ.out.free 2
          have HY := Aside0.mk (HZ.out.set_st nx)
          go_wp2
          go_ret
          refine ⟨rfl, vd', vp', v8', ?_⟩
          unfold sadvG sadvE
          rw [if_neg HX.out, if_neg HX.out, ← HS1.out]
          exact HY.out
      · have t7 : (nx == 7) = false := by simpa using h7
        have HS1 := Aside0.mk (show s1 = smid nx a s from hs1)
        have E1 := Aside0.mk (show s1 = s by rw [hs1]; unfold smid; rw [if_neg h8, if_neg (fun h => h7 h.2.1)])
        clear h8 h4 h7 hs1
        go_enter Tryd.func15, Tryd.ntmps15
        go_wp2_with fail
        refine (HTR.out _).mono ?_
        rintro e wt ⟨rfl, hbt⟩
        have H2 := Aside0.mk (H1.out.on hbt)
        clear hbt H1 x2
        have x2 := H2.out.c2
        have H3 := Aside0.mk (show MV B w0 wt gm gq n D T s1 vd vp ve by rw [E1.out]; exact H2.out)
        clear H2
        go_wp2_with fail
        refine (sa_act B w0 _ gm gq n T D s1 _ vp ve H3.out a b nx HB.out.1 HB.out.2 HA.out.1 HA.out.2 HBG.out (by rw [HS1.out]; exact Nat.le_trans (smid_cnt nx a s) HC.out) HN.out.1 HN.out.2 (by rw [HST1.out]; exact H48.out.1) H48.out.2).mono ?_
        rintro e wz ⟨rfl, vd', vp', v8', hz⟩
        have HZ := Aside0.mk hz
        clear hz
        have z2 := HZ.out.c2
        have zf := HZ.out.free 2
        have HY := Aside0.mk (HZ.out.set_st nx)
        go_wp2
        go_ret
        refine ⟨rfl, vd', vp', v8', ?_⟩
        unfold sadvG sadvE
        rw [if_neg HX.out, if_neg HX.out, ← HS1.out]
        exact HY.out
    · have t4 : (s.st == 4) = false := by simpa using h4
      have HS1 := Aside0.mk (show s1 = smid nx a s from hs1)
      have E1 := Aside0.mk (show s1 = s by rw [hs1]; unfold smid; rw [if_neg h8, if_neg (fun h => h4 h.1)])
      clear h8 h4 hs1
      go_enter Tryd.func15, Tryd.ntmps15
      go_wp2_with fail
      refine (HTR.out _).mono ?_
      rintro e wt ⟨rfl, hbt⟩
      have H2 := Aside0.mk (H1.out.on hbt)
      clear hbt H1 x2
      have x2 := H2.out.c2
      have H3 := Aside0.mk (show MV B w0 wt gm gq n D T s1 vd vp ve by rw [E1.out]; exact H2.out)
      clear H2
      go_wp2_with fail
      refine (sa_act B w0 _ gm gq n T D s1 _ vp ve H3.out a b nx HB.out.1 HB.out.2 HA.out.1 HA.out.2 HBG.out (by rw [HS1.out]; exact Nat.le_trans (smid_cnt nx a s) HC.out) HN.out.1 HN.out.2 (by rw [HST1.out]; exact H48.out.1) H48.out.2).mono ?_
      rintro e wz ⟨rfl, vd', vp', v8', hz⟩
      have HZ := Aside0.mk hz
      clear hz
      have z2 := HZ.out.c2
      have zf := HZ.out.free 2
      have HY := Aside0.mk (HZ.out.set_st nx)
      go_wp2
      go_ret
      refine ⟨rfl, vd', vp', v8', ?_⟩
      unfold sadvG sadvE
      rw [if_neg HX.out, if_neg HX.out, ← HS1.out]
      exact HY.out
end Go.Proofs.YtmpmfdghdaofhaaDoor.Sp

namespace Go.Proofs.YtmpmfdghdaofhaaDoor.Sp
set_option linter.unusedVariables false
set_option linter.unusedSimpArgs false
open Go Go.RowKit Go.Proofs.YtmpmfdghdaofhaaDoor.Pm Go.Proofs.YtmpmfdghdaofhaaDoorW.PrintWords Go.Proofs.YtmpmfdghdaofhaaDoorW.PrintLast Go.Proofs.YtmpmfdghdaofhaaDoorW.PrintMore
theorem made_q (n : Nat) : madeCells (Value.int .i64 0).cells n = cellsP (List.replicate n 0) := by
  apply Array.ext_getElem?
  intro i
  show (madeCells #[.int .i64 0] n)[i]? = (cellsP (List.replicate n 0))[i]?
  by_cases h : i < n
  · simp [madeCells, cellsP, h, Nat.mod_one]
  · simp [madeCells, cellsP, h]
def s0 (n : Nat) : SM := ⟨List.replicate n 0, [], [], 0, 0, 0⟩
set_option maxHeartbeats 8000000 in
set_option maxRecDepth 100000 in
theorem newMachine_ (w : World) (n : Nat) (D : Int) (hn : n ≤ 1000000) :
    Calls Tryd.prog 14 #[.int .i64 (n : Int), .int .i64 D] w fun e w' => ∃ gm gq, e = .returned (.pointer (some ⟨gm, 0, none⟩)) ∧ MV w.heap.size w w' gm gq n D 0 (s0 n) (.slice none 0 0) (.slice none 0 0) ⟨.slice none 0 0, []⟩ ∧ w.heap.size ≤ gm ∧ w.heap.size ≤ gq := by
  have hmk : ∀ w_ : World, (Instr.makeSlice 35 (.int .i64 (n : Int)) (.int .i64 (n : Int))).run Tryd.prog w_ = .ok (.slice (some ⟨w_.heap.size, 0, none⟩) n n) (w_.alloc (.cells (cellsP (List.replicate n 0)) 2)) := by
    intro w_
    obtain ⟨i, hi, hz⟩ := Option.map_eq_some_iff.1 (show (Tryd.prog.info? 2).map (fun i => (i.zero, i.size, i.bytes)) = some (some (.int .i64 0), 1, 8) by kernel_rfl)
    simp only [Prod.mk.injEq] at hz
    obtain ⟨hz0, hz1, hz2⟩ := hz
    have := run_make_row (P := Tryd.prog) 35 2 i (.int .i64 0) Tryd.underlying35 hi hz0 hz1 rfl .i64 .i64 n (by rw [hz2]; omega) (by omega) w_
    rw [show madeCells #[Value.int .i64 0] n = cellsP (List.replicate n 0) from made_q n] at this
    exact this
  obtain ⟨cp, hcp⟩ : ∃ cp, cp = cellsP (List.replicate n 0) := ⟨_, rfl⟩
  rw [← hcp] at hmk
  have HCP := Aside0.mk hcp
  clear hcp hn
  go_enter Tryd.func14, Tryd.ntmps14
  go_wp2_with (first | ((with_reducible refine gate_dst (N := 10) rfl ?_); refine box_event ?hg (N := 10) ?hd (cs := #[.int .i64 (n : Int), .int .i64 D, .int .i64 0, .int .i64 0, .int .i64 0, .slice (some ⟨w.heap.size, 0, none⟩) n n, .slice none 0 0, .slice none 0 0, .slice none 0 0]) (t := 40) ?hr ?_; (case hd => rfl); (case hg => rfl); (case hr => first | (go_simp; done) | (go_simp; rfl)); intro gm hgm w2 hbox hb2; have O2 := Aside0.mk hbox; have B2 := Aside0.mk hb2; have GM := Aside0.mk hgm; clear hbox hb2 hgm) | fail)
  go_ret
  have hbA := below_alloc (Below.refl w.heap.size w) (.cells cp 2)
  have hq : (w.alloc (.cells cp 2)).heap[w.heap.size]? = some (.cells cp 2 (0, 0)) := blk_new w _
  have hgm : w.heap.size ≤ gm := by
    rw [GM.out]
    exact hbA.size
  have hb := below_step hbA B2.out
  exact ⟨gm, w.heap.size, rfl, ⟨O2.out.trans rfl, ((B2.out.block _ (blk_lt hq)).trans hq).trans (by rw [HCP.out]; rfl), Kd.R_nil _ _ _ _ _, Kd.R_nil _ _ _ _ _, ⟨[], Nat.le_refl _, Kd.R_nil _ _ _ _ _, HEv.nil _ _ _⟩, fun k hk => by simp [Value.ownBlock] at hk, List.length_replicate, Nat.le_refl _, Nat.le_refl _, (FarB.refl _ _ _ _).step hb, hb.size⟩, hgm, Nat.le_refl _⟩
end Go.Proofs.YtmpmfdghdaofhaaDoor.Sp
