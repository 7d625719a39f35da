/- Texts of this claim, joined; what isn't needed is left out (wip/slim.py). -/
import Derived.Test.YtmpmfdghdaofhaaDoorZ18
import Derived.Test.YtmpmfdghdaofhaaDoorZ19
import Derived.Test.YtmpmfdghdaofhaaDoorZ20
import Derived.Deep.OwnRows
namespace Go.Proofs.YtmpmfdghdaofhaaDoor.Sp
set_option linter.unusedVariables false
set_option linter.unusedSimpArgs false
open Go Go.RowKit Go.Proofs.YtmpmfdghdaofhaaDoor.Pm Go.Proofs.YtmpmfdghdaofhaaDoorW.PrintWords Go.Proofs.YtmpmfdghdaofhaaDoorW.PrintLast Go.Proofs.YtmpmfdghdaofhaaDoorW.PrintMore
def v3T : Bool × List (List Nat × List Nat) := (true, [([], []), ([0], [0]), ([1], [1]), ([2], [2]), ([3], [3]), ([], []), ([5], [5]), ([6], [6]), ([7], [7]), ([8], [8]), ([9], [9]), ([10], [10]), ([4, 11], [4, 11])])
def v3B : List Nat := [0, 1, 3, 7, 15, 0, 32, 96, 224, 480, 992, 2016, 4095]
theorem v3_tab : rtab .any (opsOf Tryd.f15 3) = v3T := by kernel_rfl
theorem v3_bits : waitsOk v3T.2 v3B = true := by kernel_rfl
def v5T : Bool × List (List Nat × List Nat) := (true, [([], []), ([], []), ([1], [1]), ([2], [2]), ([3], [3]), ([], []), ([5], [5]), ([6], [6]), ([7], [7]), ([8], [8]), ([9], [9]), ([10], [10]), ([4, 11, 9], [4, 11]), ([0, 0, 1, 2, 3, 4, 5, 6, 7, 8, 9, 10, 11, 12], [0]), ([13, 0, 1, 2, 3, 4, 5, 6, 7, 8, 9, 10, 11, 12], [13]), ([14, 12, 12, 0, 1, 2, 3, 4, 5, 6, 7, 8, 9, 10, 11, 12], [12, 14])])
def v5B : List Nat := [0, 0, 2, 6, 14, 0, 32, 96, 224, 480, 992, 2016, 4094, 8191, 16383, 32767]
theorem v5_tab : rtab .any (opsOf Tryd.f15 5) = v5T := by kernel_rfl
theorem v5_bits : waitsOk v5T.2 v5B = true := by kernel_rfl
set_option maxHeartbeats 8000000 in
set_option maxRecDepth 100000 in
theorem sa_disp (B : Nat) (w0 w : World) (gm gq n T : Nat) (D : Int) (s : SM) (vd vp ve : Value) (h : MV B w0 w gm gq n D T s vd vp ve) (b nx : Int) (hb0 : 0 ≤ b) (hb1 : b < 256) (hbig : T ≤ 1000000) (hst : 1 ≤ s.st ∧ s.st ≤ 13) (hpl : s.cnt ≤ n) (hnb : n ≤ 1000000) (hn0 : 0 < n) :
    Calls Tryd.prog 39 #[.pointer (some ⟨gm, 0, none⟩), .int .i64 4, .int .u8 b, .int .i64 nx] w fun e w' => e = .returned (.tuple #[]) ∧ ∃ ve', MV B w0 w' gm gq n D (T + 1) (sdisp n s b) vd vp ve' := by
  have H1 := Aside0.mk (disp_ B w0 w gm gq n T D s vd vp ve h b hb0 hb1 hbig hst hpl hnb hn0)
  clear h hb0 hb1 hbig hst hpl hnb hn0
  go_enter Tryd.func39, Tryd.ntmps39
  go_wp2_with fail
  refine H1.out.mono ?_
  rintro e w1 ⟨rfl, h1⟩
  have H2 := Aside0.mk h1
  clear h1
  go_wp2
  go_end0
  exact ⟨rfl, H2.out⟩
def sact (n : Nat) (D a nx : Int) (s : SM) (b : Int) : SM :=
  if a = 0 then s else if a = 1 then sclear s else if a = 2 then (if nx = 14 then snew s b else sinter s b) else if a = 3 then sprefix s b else if a = 4 then sdisp n s b
  else if a = 5 then sexec s b else if a = 6 then sstart s b else if a = 7 then sput D s b else if a = 8 then sparam n s b else sexec s b
theorem sa_act (B : Nat) (w0 w : World) (gm gq n T : Nat) (D : Int) (s : SM) (vd vp ve : Value) (h : MV B w0 w gm gq n D T s vd vp ve) (a b nx : Int) (hb0 : 0 ≤ b) (hb1 : b < 256) (ha0 : 0 ≤ a) (ha9 : a ≤ 9) (hbig : T ≤ 1000000) (hpl : s.cnt ≤ n) (hnb : n ≤ 1000000) (hn0 : 0 < n) (h4 : a = 4 → 1 ≤ s.st ∧ s.st ≤ 13) (h8 : a = 8 → 48 ≤ b ∧ b ≤ 59) :
    Calls Tryd.prog 39 #[.pointer (some ⟨gm, 0, none⟩), .int .i64 a, .int .u8 b, .int .i64 nx] w fun e w' => e = .returned (.tuple #[]) ∧ ∃ vd' vp' ve', MV B w0 w' gm gq n D (T + 1) (sact n D a nx s b) vd' vp' ve' := by
  have up : ∀ (W : World) (t : SM) (x y z : Value), MV B w0 W gm gq n D T t x y z → MV B w0 W gm gq n D (T + 1) t x y z := fun W t x y z hh => hh.more (Nat.le_succ T)
  rcases (show a = 0 ∨ a = 1 ∨ a = 2 ∨ a = 3 ∨ a = 4 ∨ a = 5 ∨ a = 6 ∨ a = 7 ∨ a = 8 ∨ a = 9 by omega) with rfl | rfl | rfl | rfl | rfl | rfl | rfl | rfl | rfl | rfl
  · exact (sa_none B w0 w gm gq n T D s vd vp ve h b nx hb0 hb1).mono (fun e w' hh => ⟨hh.1, _, _, _, up _ _ _ _ _ hh.2⟩)
  · exact (sa_clear B w0 w gm gq n T D s vd vp ve h b nx hb0 hb1 hn0).mono (fun e w' hh => ⟨hh.1, _, _, _, up _ _ _ _ _ hh.2⟩)
  · show Calls _ _ _ _ fun e w' => _ ∧ ∃ vd' vp' ve', MV B w0 w' gm gq n D (T + 1) (if nx = 14 then _ else _) vd' vp' ve'
    by_cases hs2 : nx = 14
    · rw [if_pos hs2]
      subst hs2
      exact (sa_new B w0 w gm gq n T D s vd vp ve h b hb0 hb1).mono (fun e w' hh => ⟨hh.1, by obtain ⟨_, v, hv⟩ := hh; exact ⟨_, _, _, hv⟩⟩)
    · rw [if_neg hs2]
      exact (sa_inter B w0 w gm gq n T D s vd vp ve h b nx hb0 hb1 hs2).mono (fun e w' hh => ⟨hh.1, _, _, _, up _ _ _ _ _ hh.2⟩)
  · exact (sa_prefix B w0 w gm gq n T D s vd vp ve h b nx hb0 hb1).mono (fun e w' hh => ⟨hh.1, _, _, _, up _ _ _ _ _ hh.2⟩)
  · exact (sa_disp B w0 w gm gq n T D s vd vp ve h b nx hb0 hb1 hbig (h4 rfl) hpl hnb hn0).mono (fun e w' hh => ⟨hh.1, by obtain ⟨_, v, hv⟩ := hh; exact ⟨_, _, _, hv⟩⟩)
  · exact (sa_exec B w0 w gm gq n T D s vd vp ve h b nx hb0 hb1 hbig).mono (fun e w' hh => ⟨hh.1, by obtain ⟨_, v, hv⟩ := hh; exact ⟨_, _, _, hv⟩⟩)
  · exact (sa_start B w0 w gm gq n T D s vd vp ve h b nx hb0 hb1).mono (fun e w' hh => ⟨hh.1, by obtain ⟨_, v, hv⟩ := hh; exact ⟨_, _, _, up _ _ _ _ _ hv⟩⟩)
  · exact (sa_put B w0 w gm gq n T D s vd vp ve h b nx hb0 hb1 hbig).mono (fun e w' hh => ⟨hh.1, by obtain ⟨_, v, hv⟩ := hh; exact ⟨_, _, _, hv⟩⟩)
  · exact (sa_param B w0 w gm gq n T D s vd vp ve h b nx hb0 hb1 (h8 rfl).1 (h8 rfl).2 hnb).mono (fun e w' hh => ⟨hh.1, _, _, _, up _ _ _ _ _ hh.2⟩)
  · exact (sa_print B w0 w gm gq n T D s vd vp ve h b nx hb0 hb1 hbig).mono (fun e w' hh => ⟨hh.1, by obtain ⟨_, v, hv⟩ := hh; exact ⟨_, _, _, hv⟩⟩)
def smid (nx a : Int) (s : SM) : SM := if s.st = 8 then (if nx = 8 then s else sclear s) else if s.st = 4 ∧ nx = 7 ∧ a = 7 then sstart s 0 else s
theorem smid_st (nx a : Int) (s : SM) : (smid nx a s).st = s.st := by
  unfold smid
  split
  · split <;> rfl
  · split <;> rfl
theorem smid_cnt (nx a : Int) (s : SM) : (smid nx a s).cnt ≤ s.cnt := by
  unfold smid
  split
  · split
    · exact Nat.le_refl _
    · exact Nat.zero_le _
  · split <;> exact Nat.le_refl _
def sadvG (n : Nat) (D nx a : Int) (s : SM) (b : Int) : SM :=
  if s.st = 8 ∧ nx = 8 ∧ b = 27 then sexec s b else ⟨(sact n D a nx (smid nx a s) b).ps, (sact n D a nx (smid nx a s) b).da, (sact n D a nx (smid nx a s) b).pt, (sact n D a nx (smid nx a s) b).cnt, (sact n D a nx (smid nx a s) b).cmd, nx⟩
set_option maxHeartbeats 8000000 in
set_option maxRecDepth 100000 in
theorem sadv_ (B : Nat) (w0 w : World) (gm gq n T : Nat) (D : Int) (s : SM) (vd vp ve : Value) (h : MV B w0 w gm gq n D T s vd vp ve) (b nx a : Int) (hb0 : 0 ≤ b) (hb1 : b < 256) (ha : 0 ≤ a ∧ a ≤ 9) (hbig : T ≤ 1000000) (hc : s.cnt ≤ n) (hn : n ≤ 1000000 ∧ 0 < n) (h48 : (a = 4 → 1 ≤ s.st ∧ s.st ≤ 13) ∧ (a = 8 → 48 ≤ b ∧ b ≤ 59)) (hs14 : s.st ≠ 14) (htr : ∀ w, Calls Tryd.prog 8 #[.int .i64 s.st, .int .u8 b] w fun e w' => e = .returned (.tuple #[.int .i64 nx, .int .i64 a]) ∧ Below w.heap.size w w') :
    Calls Tryd.prog 15 #[.pointer (some ⟨gm, 0, none⟩), .int .u8 b] w fun e w' => e = .returned (.int .i64 a) ∧ ∃ vd' vp' ve', MV B w0 w' gm gq n D (T + 1) (sadvG n D nx a s b) vd' vp' ve' := by
  have H1 := Aside0.mk h
  have HTR := Aside0.mk htr
  have HB := Aside0.mk (show 0 ≤ b ∧ b < 256 from ⟨hb0, hb1⟩)
  have HA := Aside0.mk ha
  have HBG := Aside0.mk hbig
  have HC := Aside0.mk hc
  have HN := Aside0.mk hn
  have H48 := Aside0.mk h48
  have t14 : (s.st == 14) = false := by simpa using hs14
  obtain ⟨s1, hs1⟩ : ∃ t, t = smid nx a s := ⟨_, rfl⟩
  have HST1 := Aside0.mk (show s1.st = s.st by rw [hs1]; exact smid_st nx a s)
  have x2 := h.c2
  clear h htr hb0 hb1 ha hbig hc hn h48 hs14
  by_cases h8 : s.st = 8
  · have t8 : (s.st == 8) = true := by simpa using h8
    have t4 : (s.st == 4) = false := by simp; omega
    by_cases hn8 : nx = 8
    · have tn8 : (nx == 8) = true := by simpa using hn8
      have un8 : (nx != 8) = false := by simpa using hn8
      by_cases h27 : b = 27
      · have t27 : (b == 27) = true := by simpa using h27
        have HX := Aside0.mk (show s.st = 8 ∧ nx = 8 ∧ b = 27 from ⟨h8, hn8, h27⟩)
        clear h8 hn8 h27 hs1
        go_enter Tryd.func15, Tryd.ntmps15
        go_wp2_with fail
        refine (HTR.out _).mono ?_
        rintro e wt ⟨rfl, hbt⟩
        have H2 := Aside0.mk (H1.out.on hbt)
        clear hbt H1 x2
        have x2 := H2.out.c2
        go_wp2_with fail
        refine (sa_exec B w0 wt gm gq n T D s vd vp ve H2.out b nx HB.out.1 HB.out.2 HBG.out).mono ?_
        rintro e wz ⟨rfl, ve', hz⟩
        have HZ := Aside0.mk hz
        clear hz
        go_wp2
        go_ret
        refine ⟨rfl, vd, vp, ve', ?_⟩
        unfold sadvG
        rw [if_pos HX.out]
        exact HZ.out
      · have t27 : (b == 27) = false := by simpa using h27
        have HX := Aside0.mk (show ¬ (s.st = 8 ∧ nx = 8 ∧ b = 27) from fun h => h27 h.2.2)
        have HS1 := Aside0.mk (show s1 = smid nx a s from hs1)
        have E1 := Aside0.mk (show s1 = s by rw [hs1]; unfold smid; rw [if_pos h8, if_pos hn8])
        clear h8 hn8 h27 hs1
        go_enter Tryd.func15, Tryd.ntmps15
        go_wp2_with fail
        refine (HTR.out _).mono ?_
        rintro e wt ⟨rfl, hbt⟩
        have H2 := Aside0.mk (H1.out.on hbt)
        clear hbt H1 x2
        have x2 := H2.out.c2
        have H3 := Aside0.mk (show MV B w0 wt gm gq n D T s1 vd vp ve by rw [E1.out]; exact H2.out)
        clear H2
        go_wp2_with fail
        refine (sa_act B w0 _ gm gq n T D s1 _ vp ve H3.out a b nx HB.out.1 HB.out.2 HA.out.1 HA.out.2 HBG.out (by rw [HS1.out]; exact Nat.le_trans (smid_cnt nx a s) HC.out) HN.out.1 HN.out.2 (by rw [HST1.out]; exact H48.out.1) H48.out.2).mono ?_
        rintro e wz ⟨rfl, vd', vp', ve', hz⟩
        have HZ := Aside0.mk hz
        clear hz
        have z2 := HZ.out.c2
        have zf := HZ.out.free 2
        have HY := Aside0.mk (HZ.out.set_st nx)
        go_wp2
        go_ret
        refine ⟨rfl, vd', vp', ve', ?_⟩
        unfold sadvG
        rw [if_neg HX.out, ← HS1.out]
        exact HY.out
    · have tn8 : (nx == 8) = false := by simpa using hn8
      have un8 : (nx != 8) = true := by simpa using hn8
      have HX := Aside0.mk (show ¬ (s.st = 8 ∧ nx = 8 ∧ b = 27) from fun h => hn8 h.2.1)
      have HS1 := Aside0.mk (show s1 = smid nx a s from hs1)
      have E1 := Aside0.mk (show s1 = sclear s by rw [hs1]; unfold smid; rw [if_pos h8, if_neg hn8])
      clear h8 hn8 hs1
      go_enter Tryd.func15, Tryd.ntmps15
      go_wp2_with fail
      refine (HTR.out _).mono ?_
      rintro e wt ⟨rfl, hbt⟩
      have H2 := Aside0.mk (H1.out.on hbt)
      clear hbt H1 x2
      have x2 := H2.out.c2
      go_wp2_with fail
      refine (clear_ B w0 wt gm gq n T D s vd vp ve H2.out HN.out.2).mono ?_
      rintro e w3 ⟨rfl, h3⟩
      have H3 := Aside0.mk (show MV B w0 w3 gm gq n D T s1 vd vp ve by rw [E1.out]; exact h3)
      clear h3 H2 x2
      have x2 : w3.cell? ⟨gm, 2, none⟩ = some (.int .i64 s.st) := by rw [← HST1.out]; exact H3.out.c2
      go_wp2_with fail
      refine (sa_act B w0 _ gm gq n T D s1 _ vp ve H3.out a b nx HB.out.1 HB.out.2 HA.out.1 HA.out.2 HBG.out (by rw [HS1.out]; exact Nat.le_trans (smid_cnt nx a s) HC.out) HN.out.1 HN.out.2 (by rw [HST1.out]; exact H48.out.1) H48.out.2).mono ?_
      rintro e wz ⟨rfl, vd', vp', ve', hz⟩
      have HZ := Aside0.mk hz
      clear hz
      have z2 := HZ.out.c2
      have zf := HZ.out.free 2
      have HY := Aside0.mk (HZ.out.set_st nx)
      go_wp2
      go_ret
      refine ⟨rfl, vd', vp', ve', ?_⟩
      unfold sadvG
      rw [if_neg HX.out, ← HS1.out]
      exact HY.out
  · have t8 : (s.st == 8) = false := by simpa using h8
    have HX := Aside0.mk (show ¬ (s.st = 8 ∧ nx = 8 ∧ b = 27) from fun h => h8 h.1)
    by_cases h4 : s.st = 4
    · have t4 : (s.st == 4) = true := by simpa using h4
      by_cases h7 : nx = 7
      · have t7 : (nx == 7) = true := by simpa using h7
        by_cases ha7 : a = 7
        · have ta7 : (a == 7) = true := by simpa using ha7
          have HS1 := Aside0.mk (show s1 = smid nx a s from hs1)
          have E1 := Aside0.mk (show s1 = sstart s 0 by rw [hs1]; unfold smid; rw [if_neg h8, if_pos ⟨h4, h7, ha7⟩])
          clear h8 h4 h7 ha7 hs1
          go_enter Tryd.func15, Tryd.ntmps15
          go_wp2_with fail
          refine (HTR.out _).mono ?_
          rintro e wt ⟨rfl, hbt⟩
          have H2 := Aside0.mk (H1.out.on hbt)
          clear hbt H1 x2
          have x2 := H2.out.c2
          go_wp2_with fail
          refine (sa_start B w0 wt gm gq n T D s vd vp ve H2.out 0 nx (by decide) (by decide)).mono ?_
          rintro e w3 ⟨rfl, vd2, h3⟩
          have H3 := Aside0.mk (show MV B w0 w3 gm gq n D T s1 vd2 vp ve by rw [E1.out]; exact h3)
          clear h3 H2 x2
          have x2 : w3.cell? ⟨gm, 2, none⟩ = some (.int .i64 s.st) := by rw [← HST1.out]; exact H3.out.c2
          go_wp2_with fail
          refine (sa_act B w0 _ gm gq n T D s1 _ vp ve H3.out a b nx HB.out.1 HB.out.2 HA.out.1 HA.out.2 HBG.out (by rw [HS1.out]; exact Nat.le_trans (smid_cnt nx a s) HC.out) HN.out.1 HN.out.2 (by rw [HST1.out]; exact H48.out.1) H48.out.2).mono ?_
          rintro e wz ⟨rfl, vd', vp', ve', hz⟩
          have HZ := Aside0.mk hz
          clear hz
          have z2 := HZ.out.c2
          have zf := HZ.out.free 2
          have HY := Aside0.mk (HZ.out.set_st nx)
          go_wp2
          go_ret
          refine ⟨rfl, vd', vp', ve', ?_⟩
          unfold sadvG
          rw [if_neg HX.out, ← HS1.out]
          exact HY.out
        · have ta7 : (a == 7) = false := by simpa using ha7
          have HS1 := Aside0.mk (show s1 = smid nx a s from hs1)
          have E1 := Aside0.mk (show s1 = s by rw [hs1]; unfold smid; rw [if_neg h8, if_neg (fun h => ha7 h.2.2)])
          clear h8 h4 h7 ha7 hs1
          go_enter Tryd.func15, Tryd.ntmps15
          go_wp2_with fail
          refine (HTR.out _).mono ?_
          rintro e wt ⟨rfl, hbt⟩
          have H2 := Aside0.mk (H1.out.on hbt)
          clear hbt H1 x2
          have x2 := H2.out.c2
          have H3 := Aside0.mk (show MV B w0 wt gm gq n D T s1 vd vp ve by rw [E1.out]; exact H2.out)
          clear H2
          go_wp2_with fail
          refine (sa_act B w0 _ gm gq n T D s1 _ vp ve H3.out a b nx HB.out.1 HB.out.2 HA.out.1 HA.out.2 HBG.out (by rw [HS1.out]; exact Nat.le_trans (smid_cnt nx a s) HC.out) HN.out.1 HN.out.2 (by rw [HST1.out]; exact H48.out.1) H48.out.2).mono ?_
          rintro e wz ⟨rfl, vd', vp', ve', hz⟩
          have HZ := Aside0.mk hz
          clear hz
          have z2 := HZ.out.c2
          have zf := HZ.out.free 2
          have HY := Aside0.mk (HZ.out.set_st nx)
          go_wp2
          go_ret
          refine ⟨rfl, vd', vp', ve', ?_⟩
          unfold sadvG
          rw [if_neg HX.out, ← HS1.out]
          exact HY.out
      · have t7 : (nx == 7) = false := by simpa using h7
        have HS1 := Aside0.mk (show s1 = smid nx a s from hs1)
        have E1 := Aside0.mk (show s1 = s by rw [hs1]; unfold smid; rw [if_neg h8, if_neg (fun h => h7 h.2.1)])
        clear h8 h4 h7 hs1
        go_enter Tryd.func15, Tryd.ntmps15
        go_wp2_with fail
        refine (HTR.out _).mono ?_
        rintro e wt ⟨rfl, hbt⟩
        have H2 := Aside0.mk (H1.out.on hbt)
        clear hbt H1 x2
        have x2 := H2.out.c2
        have H3 := Aside0.mk (show MV B w0 wt gm gq n D T s1 vd vp ve by rw [E1.out]; exact H2.out)
        clear H2
        go_wp2_with fail
        refine (sa_act B w0 _ gm gq n T D s1 _ vp ve H3.out a b nx HB.out.1 HB.out.2 HA.out.1 HA.out.2 HBG.out (by rw [HS1.out]; exact Nat.le_trans (smid_cnt nx a s) HC.out) HN.out.1 HN.out.2 (by rw [HST1.out]; exact H48.out.1) H48.out.2).mono ?_
        rintro e wz ⟨rfl, vd', vp', ve', hz⟩
        have HZ := Aside0.mk hz
        clear hz
        have z2 := HZ.out.c2
        have zf := HZ.out.free 2
        have HY := Aside0.mk (HZ.out.set_st nx)
        go_wp2
        go_ret
        refine ⟨rfl, vd', vp', ve', ?_⟩
        unfold sadvG
        rw [if_neg HX.out, ← HS1.out]
        exact HY.out
    · have t4 : (s.st == 4) = false := by simpa using h4
      have HS1 := Aside0.mk (show s1 = smid nx a s from hs1)
      have E1 := Aside0.mk (show s1 = s by rw [hs1]; unfold smid; rw [if_neg h8, if_neg (fun h => h4 h.1)])
      clear h8 h4 hs1
      go_enter Tryd.func15, Tryd.ntmps15
      go_wp2_with fail
      refine (HTR.out _).mono ?_
      rintro e wt ⟨rfl, hbt⟩
      have H2 := Aside0.mk (H1.out.on hbt)
      clear hbt H1 x2
      have x2 := H2.out.c2
      have H3 := Aside0.mk (show MV B w0 wt gm gq n D T s1 vd vp ve by rw [E1.out]; exact H2.out)
      clear H2
      go_wp2_with fail
      refine (sa_act B w0 _ gm gq n T D s1 _ vp ve H3.out a b nx HB.out.1 HB.out.2 HA.out.1 HA.out.2 HBG.out (by rw [HS1.out]; exact Nat.le_trans (smid_cnt nx a s) HC.out) HN.out.1 HN.out.2 (by rw [HST1.out]; exact H48.out.1) H48.out.2).mono ?_
      rintro e wz ⟨rfl, vd', vp', ve', hz⟩
      have HZ := Aside0.mk hz
      clear hz
      have z2 := HZ.out.c2
      have zf := HZ.out.free 2
      have HY := Aside0.mk (HZ.out.set_st nx)
      go_wp2
      go_ret
      refine ⟨rfl, vd', vp', ve', ?_⟩
      unfold sadvG
      rw [if_neg HX.out, ← HS1.out]
      exact HY.out
theorem MV_pt0 {B : Nat} {w0 W : World} {gm gq n T : Nat} {D : Int} {s : SM} {vd ve : Value} {g1 L cap1 : Nat} (h : MV B w0 W gm gq n D T s vd (.slice (some ⟨g1, 0, none⟩) L cap1) ve) (hL : 0 < s.pt.length) {f0 : Int} (hf : f0 = rd s.pt 0) : W.cell? ⟨g1, 0, none⟩ = some (.int .u8 f0) := by
  obtain ⟨ad, e0, hx⟩ := Kd.at_int (Kd.R_reads' h.rp).2.2 0 (by decide) (by omega)
  cases e0
  rw [hf]
  simpa [Addr.add] using hx
theorem slice_snocF {α : Type} {d : Kd α} {e B : Nat} {w : World} {ok : Nat → Prop} {v : Value} {xs : List α} {x : α} (h : d.R e w B ok v (xs ++ [x])) : ∃ g c, v = .slice (some ⟨g, 0, none⟩) (xs.length + 1) c := by
  obtain ⟨g, c, e, _⟩ := Kd.R_form h (by simp)
  exact ⟨g, c, by rw [e, List.length_append]; rfl⟩
set_option maxHeartbeats 8000000 in
set_option maxRecDepth 100000 in
theorem sadvU_ (B : Nat) (w0 w : World) (gm gq n T : Nat) (D : Int) (s : SM) (vd vp ve : Value) (h : MV B w0 w gm gq n D T s vd vp ve) (b : Int) (hb0 : 0 ≤ b) (hb1 : b < 256) (hbig : T ≤ 90000) (hs14 : s.st = 14) :
    Calls Tryd.prog 15 #[.pointer (some ⟨gm, 0, none⟩), .int .u8 b] w fun e w' => e = .returned (.int .i64 (if ((s.pt.length + 1 : Nat) : Int) < plen (rd (s.pt ++ [b]) 0) then 2 else 9)) ∧ ∃ vd' vp' ve', MV B w0 w' gm gq n D (T + 2) ⟨s.ps, s.da, s.pt ++ [b], s.cnt, s.cmd, if ((s.pt.length + 1 : Nat) : Int) < plen (rd (s.pt ++ [b]) 0) then 14 else 0⟩ vd' vp' ve' := by
  obtain ⟨ps, da, pt, cnt, cmd, st⟩ := s
  replace hs14 : st = 14 := hs14
  subst hs14
  obtain ⟨q, hq⟩ : ∃ q, q = pt ++ [b] := ⟨_, rfl⟩
  obtain ⟨f0, hf0⟩ : ∃ f, f = rd q 0 := ⟨_, rfl⟩
  obtain ⟨u, hu0⟩ : ∃ u, u = plen f0 := ⟨_, rfl⟩
  obtain ⟨L, hL⟩ : ∃ L, L = pt.length + 1 := ⟨_, rfl⟩
  have hpl : pt.length ≤ T := h.lp
  have hql : q.length = L := by rw [hq, hL, List.length_append]; rfl
  obtain ⟨k0, r0, hcp⟩ := cp_tot q (by omega)
  obtain ⟨rv, hrv⟩ : ∃ r : Int, r = (if (L : Int) < u then 2 else 9) := ⟨_, rfl⟩
  obtain ⟨rt, hrt⟩ : ∃ r : SM, r = ⟨ps, da, q, cnt, cmd, if (L : Int) < u then 14 else 0⟩ := ⟨_, rfl⟩
  suffices hh : Calls Tryd.prog 15 #[.pointer (some ⟨gm, 0, none⟩), .int .u8 b] w fun e w' => e = .returned (.int .i64 rv) ∧ ∃ vd' vp' ve', MV B w0 w' gm gq n D (T + 2) rt vd' vp' ve' by
    refine hh.mono fun e w' hx => ?_
    rw [hrv, hrt, hL, hu0, hf0, hq] at hx
    exact hx
  have HRV := Aside0.mk hrv
  have HRT := Aside0.mk hrt
  have HQ := Aside0.mk hq
  have HL := Aside0.mk hL
  have HF := Aside0.mk hf0
  have HQL := Aside0.mk (show 0 < q.length by omega)
  have HU := Aside0.mk (show PY.spec_pointBytes.f f0 = some u by rw [hu0]; exact plen_f f0)
  have HPL := Aside0.mk hpl
  have HBG := Aside0.mk (show T ≤ 90000 from hbig)
  have H1 := Aside0.mk h
  have x2 := h.c2
  have x7 := h.c7
  have HX7 := Aside0.mk (fun (w_ : World) (hg : World.grownBy w w_ vp.ownBlock) => (h.cell_grown hg (h.fm rfl (by decide) h.rp) 7).trans (show _ = some vp from rfl))
  have HY7 := Aside0.mk (fun (w_ : World) (hg : World.grownBy w w_ vp.ownBlock) => h.free_grown hg (h.fm rfl (by decide) h.rp) 7)
  have HQLL := Aside0.mk hql
  have HCPf := Aside0.mk hcp
  have hL0 : 0 < L := by omega
  have hL1 : (0 : Int) < (L : Int) := by omega
  clear h hb0 hb1 hbig hq hf0 hu0 hL hpl hql hcp hrv hrt
  go_enter Tryd.func15, Tryd.ntmps15
  go_upto_region 3 with (first | ((with_reducible refine gate_builtin (b := .append) (xs := #[.tmp 16, .tmp 18]) rfl ?_); at_builtin; refine Kd.R_append (Kd.int .u8) (w0 := w0) B rfl (.tmp 16) (.tmp 18) 27 5 (.int .u8 0) 1 rfl Tryd.underlying27 info5 rfl (by decide) (by omega) vp pt b [.int .u8 b] (fun _ => True) (fun _ => False) rfl rfl ?aP (fun _ hk => hk.elim) (fun _ _ => trivial) H1.out.rp H1.out.b H1.out.lt (by have := HPL.out; have := HBG.out; omega) ?_; (case aP => exact rfl); intro v1 w9 ho hb hg hat; have HG := Aside0.mk hg; have HO := Aside0.mk ho; have HBB := Aside0.mk hb; have HAT := Aside0.mk hat; clear ho hb hg hat; obtain ⟨g1, cap1, e1⟩ := slice_snocF HO.out; subst e1; have k7 := HX7.out w9 HG.out; have j7 := HY7.out w9 HG.out) | fail)
  have H3 := Aside0.mk (show MV B w0 (w9.setCell ⟨gm, 7, none⟩ (.slice (some ⟨g1, 0, none⟩) (pt.length + 1) cap1)) gm gq n D (T + 1) ⟨ps, da, q, cnt, cmd, 14⟩ vd (.slice (some ⟨g1, 0, none⟩) L cap1) ve from by
    have h_ := H1.out.put_p HO.out HBB.out HG.out HAT.out
    rw [HQ.out, HL.out]
    exact h_)
  clear k7 j7 HX7 HY7 HG HBB HAT HO H1 x2 x7
  generalize w9.setCell ⟨gm, 7, none⟩ (.slice (some ⟨g1, 0, none⟩) (pt.length + 1) cap1) = w3 at H3 ⊢
  have HCP := Aside0.mk (fun (W : World) (hr : Kd.R (Kd.int .u8) 5 W B (fun _ => True) (.slice (some ⟨g1, 0, none⟩) L cap1) q) => show Calls Tryd.prog 38 #[.slice (some ⟨g1, 0, none⟩) L cap1] W fun e w' => e = .returned (.int .i64 r0) ∧ Drawn0 W w' from by
    have h_ := PY.spec_CodePoint.calls k0 (some ⟨g1, 0, none⟩) cap1 q r0 W (Kd.R_reads' hr).2.2 (by have := (Kd.R_reads' hr).2.1; have := HQLL.out; omega) HCPf.out
    rw [HQLL.out] at h_
    exact h_)
  refine start_ (n := 13) (S := (fun w' => w'.cell? ⟨gm, 7, none⟩ = some (.slice (some ⟨g1, 0, none⟩) L cap1) ∧ w'.cell? ⟨g1, 0, none⟩ = some (.int .u8 f0))) (ds := []) #[false, false, false, false, false, false, false, false, false, false, false, false, false] (by kernel_rfl) rfl rfl ⟨H3.out.c7, MV_pt0 H3.out HQL.out HF.out⟩ (fun hHeld => ?_)
  refine with_tabW v3_tab v3_bits (fun HT_ HW_ => ?_)
  have H4 := Aside0.mk (show MV B w0 w3.drew gm gq n D (T + 1) ⟨ps, da, q, cnt, cmd, 14⟩ vd (.slice (some ⟨g1, 0, none⟩) L cap1) ve from H3.out.drew)
  clear H3
  generalize w3.drew = w4 at H4 hHeld ⊢
  refine pure_ (i := 0) (N := some 22) (v := ?_) (a' := ?_) (zF 13 1) rfl rfl (any_of HT_.out (by kernel_rfl)) (fun _ _ _ h => h) (Or.inl ⟨by rfl, ?_⟩) ?_ ?_
  rotate_left; (intro w'; go_simp; with_reducible rfl); rotate_left; (simp only [Act.put, zA, zZ, zS, i64_w, i32_w]; rfl)
  refine pure_ (i := 1) (N := some 23) (v := ?_) (a' := ?_) (zF 13 3) rfl rfl (any_of HT_.out (by kernel_rfl)) (fun _ _ _ h => h) (Or.inl ⟨by rfl, ?_⟩) ?_ ?_
  rotate_left; (intro w'; go_simp; with_reducible rfl); rotate_left; (simp only [Act.put, zA, zZ, zS, i64_w, i32_w]; rfl)
  refine pure_ (i := 2) (N := some 24) (v := ?_) (a' := ?_) (zF 13 7) rfl rfl (any_of HT_.out (by kernel_rfl)) (fun _ _ _ h => h) (Or.inl ⟨by rfl, ?_⟩) ?_ ?_
  rotate_left; (intro w'; go_simp; with_reducible rfl); rotate_left; (simp only [Act.put, zA, zZ, zS, i64_w, i32_w]; rfl)
  refine pure_ (i := 5) (N := some 27) (v := ?_) (a' := ?_) (zF 13 39) rfl rfl (any_of HT_.out (by kernel_rfl)) (fun _ _ _ h => h) (Or.inl ⟨by rfl, ?_⟩) ?_ ?_
  rotate_left; (intro w'; go_simp; with_reducible rfl); rotate_left; (simp only [Act.put, zA, zZ, zS, i64_w, i32_w]; rfl)
  refine pure_ (i := 6) (N := some 28) (v := ?_) (a' := ?_) (zF 13 103) rfl rfl (any_of HT_.out (by kernel_rfl)) (fun _ _ _ h => h) (Or.inl ⟨by rfl, ?_⟩) ?_ ?_
  rotate_left; (intro w'; go_simp; with_reducible rfl); rotate_left; (simp only [Act.put, zA, zZ, zS, i64_w, i32_w]; rfl)
  refine pure_ (i := 7) (N := some 29) (v := ?_) (a' := ?_) (zF 13 231) rfl rfl (any_of HT_.out (by kernel_rfl)) (fun _ _ _ h => h) (Or.inl ⟨by rfl, ?_⟩) ?_ ?_
  rotate_left; (intro w'; go_simp; with_reducible rfl); rotate_left; (simp only [Act.put, zA, zZ, zS, i64_w, i32_w]; rfl)
  refine take_ (i := 3) (N := some 25) (v := ?_) (a' := ?_) (zF 13 239) rfl rfl (take_ofW HT_.out HW_.out (by kernel_rfl)) (fun _ _ _ h => h) (Or.inl ⟨by rfl, ?_⟩) hHeld ?_ ?_
  rotate_left; (rintro w' ⟨s0, s1⟩; go_simp; with_reducible rfl); rotate_left; (simp only [Act.put, zA, zZ, zS, i64_w, i32_w]; rfl)
  refine pure_ (i := 4) (N := some 26) (v := ?_) (a' := ?_) (zF 13 255) rfl rfl (any_of HT_.out (by kernel_rfl)) (fun _ _ _ h => h) (Or.inl ⟨by rfl, ?_⟩) ?_ ?_
  rotate_left; (intro w'; go_simp; with_reducible rfl); rotate_left; (simp only [Act.put, zA, zZ, zS, i64_w, i32_w]; rfl)
  refine take_ (i := 8) (N := some 30) (v := ?_) (a' := ?_) (zF 13 511) rfl rfl (take_ofW HT_.out HW_.out (by kernel_rfl)) (fun _ _ _ h => h) (Or.inl ⟨by rfl, ?_⟩) hHeld ?_ ?_
  rotate_left; (rintro w' ⟨s0, s1⟩; go_simp; with_reducible rfl); rotate_left; (simp only [Act.put, zA, zZ, zS, i64_w, i32_w]; rfl)
  refine pure_ (i := 9) (N := some 31) (v := ?_) (a' := ?_) (zF 13 1023) rfl rfl (any_of HT_.out (by kernel_rfl)) (fun _ _ _ h => h) (Or.inl ⟨by rfl, ?_⟩) ?_ ?_
  rotate_left; (intro w'; go_simp; with_reducible rfl); rotate_left; (simp only [Act.put, zA, zZ, zS, i64_w, i32_w]; rfl)
  refine take_ (i := 10) (N := some 32) (v := ?_) (a' := ?_) (zF 13 2047) rfl rfl (take_ofW HT_.out HW_.out (by kernel_rfl)) (fun _ _ _ h => h) (Or.inl ⟨by rfl, ?_⟩) hHeld ?_ ?_
  rotate_left; (rintro w' ⟨s0, s1⟩; go_simp; with_reducible rfl); rotate_left; (simp only [Act.put, zA, zZ, zS, i64_w, i32_w]; rfl)
  refine one_ (i := 11) (N := some 33) (zF 13 4095) rfl rfl (one_of HT_.out (by kernel_rfl)) (by decide) (fun K hK => ?_)
  refine goes_ Tryd.func37 (by kernel_rfl) rfl #[.int .u8 f0] (by rfl) rfl rfl (by (try simp only [List.map_toArray, List.map_cons, List.map_nil]); first | done | rfl | (simp [Act.eval, *]; done)) ?_
  refine (PY.spec_pointBytes.calls f0 u _ HU.out).mono ?_
  rintro e wc_ ⟨rfl, hbc⟩
  refine ⟨_, rfl, ?_⟩
  have H5 := Aside0.mk (H4.out.on hbc.below)
  clear hbc H4
  refine hK.out _ _ ⟨H5.out.c7, MV_pt0 H5.out HQL.out HF.out⟩ (fun hHeld => ?_)
  clear hK K
  refine norm_ (a' := ?_) ?_ ?_
  rotate_left
  · show Act.put _ (some 33) _ = _
    simp only [Act.put, zA, zZ, zS, i64_w, i32_w]
    rfl
  refine pure_ (i := 12) (N := some 34) (v := ?_) (a' := ?_) (zF 13 8191) rfl rfl (any_of HT_.out (by kernel_rfl)) (fun _ _ _ h => h) (Or.inl ⟨by rfl, ?_⟩) ?_ ?_
  rotate_left; (intro w'; go_simp; with_reducible rfl); rotate_left; (simp only [Act.put, zA, zZ, zS, i64_w, i32_w]; rfl)
  refine done_ (done_of HT_.out (by kernel_rfl)) ?_
  clear hHeld
  by_cases hlt : (L : Int) < u
  · have tl : decide ((L : Int) < u) = true := decide_eq_true hlt
    have HV := Aside0.mk (show rv = 2 by rw [HRV.out, if_pos hlt])
    have HT := Aside0.mk (show rt = ⟨ps, da, q, cnt, cmd, 14⟩ by rw [HRT.out, if_pos hlt])
    go_wp2
    go_ret
    exact ⟨by rw [HV.out]; rfl, vd, _, ve, by rw [HT.out]; exact H5.out.more (Nat.le_succ _)⟩
  · have tl : decide ((L : Int) < u) = false := decide_eq_false hlt
    have HV := Aside0.mk (show rv = 9 by rw [HRV.out, if_neg hlt])
    have HT := Aside0.mk (show rt = ⟨ps, da, q, cnt, cmd, 0⟩ by rw [HRT.out, if_neg hlt])
    have hge : u ≤ (L : Int) := by omega
    go_wp2_with fail
    refine start_ (n := 16) (S := (fun w' => w'.cell? ⟨gm, 8, none⟩ = some ve ∧ w'.cell? ⟨gm, 7, none⟩ = some (.slice (some ⟨g1, 0, none⟩) L cap1))) (ds := [15]) #[false, false, false, false, false, false, false, false, false, false, false, false, false, false, false, false] (by kernel_rfl) rfl rfl ⟨H5.out.c8, H5.out.c7⟩ (fun hHeld => ?_)
    refine with_tabW v5_tab v5_bits (fun HT_ HW_ => ?_)
    have H6 := Aside0.mk (show MV B w0 wc_.drew gm gq n D (T + 1) ⟨ps, da, q, cnt, cmd, 14⟩ vd (.slice (some ⟨g1, 0, none⟩) L cap1) ve from H5.out.drew)
    clear H5
    generalize wc_.drew = w6 at H6 hHeld ⊢
    refine pure_ (i := 0) (N := some 35) (v := ?_) (a' := ?_) (zF 16 1) rfl rfl (any_of HT_.out (by kernel_rfl)) (fun _ _ _ h => h) (Or.inl ⟨by rfl, ?_⟩) ?_ ?_
    rotate_left; (intro w'; go_simp; with_reducible rfl); rotate_left; (simp only [Act.put, zA, zZ, zS, i64_w, i32_w]; rfl)
    refine pure_ (i := 1) (N := some 36) (v := ?_) (a' := ?_) (zF 16 3) rfl rfl (any_of HT_.out (by kernel_rfl)) (fun _ _ _ h => h) (Or.inl ⟨by rfl, ?_⟩) ?_ ?_
    rotate_left; (intro w'; go_simp; with_reducible rfl); rotate_left; (simp only [Act.put, zA, zZ, zS, i64_w, i32_w]; rfl)
    refine pure_ (i := 2) (N := some 37) (v := ?_) (a' := ?_) (zF 16 7) rfl rfl (any_of HT_.out (by kernel_rfl)) (fun _ _ _ h => h) (Or.inl ⟨by rfl, ?_⟩) ?_ ?_
    rotate_left; (intro w'; go_simp; with_reducible rfl); rotate_left; (simp only [Act.put, zA, zZ, zS, i64_w, i32_w]; rfl)
    refine pure_ (i := 3) (N := some 38) (v := ?_) (a' := ?_) (zF 16 15) rfl rfl (any_of HT_.out (by kernel_rfl)) (fun _ _ _ h => h) (Or.inl ⟨by rfl, ?_⟩) ?_ ?_
    rotate_left; (intro w'; go_simp; with_reducible rfl); rotate_left; (simp only [Act.put, zA, zZ, zS, i64_w, i32_w]; rfl)
    refine pure_ (i := 5) (N := some 40) (v := ?_) (a' := ?_) (zF 16 47) rfl rfl (any_of HT_.out (by kernel_rfl)) (fun _ _ _ h => h) (Or.inl ⟨by rfl, ?_⟩) ?_ ?_
    rotate_left; (intro w'; go_simp; with_reducible rfl); rotate_left; (simp only [Act.put, zA, zZ, zS, i64_w, i32_w]; rfl)
    refine pure_ (i := 6) (N := some 41) (v := ?_) (a' := ?_) (zF 16 111) rfl rfl (any_of HT_.out (by kernel_rfl)) (fun _ _ _ h => h) (Or.inl ⟨by rfl, ?_⟩) ?_ ?_
    rotate_left; (intro w'; go_simp; with_reducible rfl); rotate_left; (simp only [Act.put, zA, zZ, zS, i64_w, i32_w]; rfl)
    refine pure_ (i := 7) (N := some 42) (v := ?_) (a' := ?_) (zF 16 239) rfl rfl (any_of HT_.out (by kernel_rfl)) (fun _ _ _ h => h) (Or.inl ⟨by rfl, ?_⟩) ?_ ?_
    rotate_left; (intro w'; go_simp; with_reducible rfl); rotate_left; (simp only [Act.put, zA, zZ, zS, i64_w, i32_w]; rfl)
    refine take_ (i := 4) (N := some 39) (v := ?_) (a' := ?_) (zF 16 255) rfl rfl (take_ofW HT_.out HW_.out (by kernel_rfl)) (fun _ _ _ h => h) (Or.inl ⟨by rfl, ?_⟩) hHeld ?_ ?_
    rotate_left; (rintro w' ⟨s0, s1⟩; go_simp; with_reducible rfl); rotate_left; (simp only [Act.put, zA, zZ, zS, i64_w, i32_w]; rfl)
    refine take_ (i := 8) (N := some 43) (v := ?_) (a' := ?_) (zF 16 511) rfl rfl (take_ofW HT_.out HW_.out (by kernel_rfl)) (fun _ _ _ h => h) (Or.inl ⟨by rfl, ?_⟩) hHeld ?_ ?_
    rotate_left; (rintro w' ⟨s0, s1⟩; go_simp; with_reducible rfl); rotate_left; (simp only [Act.put, zA, zZ, zS, i64_w, i32_w]; rfl)
    refine one_ (i := 9) (N := some 44) (zF 16 1023) rfl rfl (one_of HT_.out (by kernel_rfl)) (by decide) (fun K hK => ?_)
    refine goes_ Tryd.func38 (by kernel_rfl) rfl #[.slice (some ⟨g1, 0, none⟩) L cap1] (by rfl) rfl rfl (by (try simp only [List.map_toArray, List.map_cons, List.map_nil]); first | done | rfl | (simp [Act.eval, *]; done)) ?_
    refine (HCP.out _ H6.out.rp).mono ?_
    rintro e wc_ ⟨rfl, hbc⟩
    refine ⟨_, rfl, ?_⟩
    have H7 := Aside0.mk (H6.out.on hbc.below)
    clear hbc H6
    refine hK.out _ _ ⟨H7.out.c8, H7.out.c7⟩ (fun hHeld => ?_)
    clear hK K
    refine norm_ (a' := ?_) ?_ ?_
    rotate_left
    · show Act.put _ (some 44) _ = _
      simp only [Act.put, zA, zZ, zS, i64_w, i32_w]
      rfl
    refine pure_ (i := 10) (N := some 45) (v := ?_) (a' := ?_) (zF 16 2047) rfl rfl (any_of HT_.out (by kernel_rfl)) (fun _ _ _ h => h) (Or.inl ⟨by rfl, ?_⟩) ?_ ?_
    rotate_left; (intro w'; go_simp; with_reducible rfl); rotate_left; (simp only [Act.put, zA, zZ, zS, i64_w, i32_w]; rfl)
    refine one_ (i := 11) (N := some 46) (zF 16 4095) rfl rfl (one_of HT_.out (by kernel_rfl)) (by decide) (fun K hK => ?_)
    refine value_ (w1 := ?_) (v := ?_) (by rfl) rfl ?_ ?_
    rotate_left 2
    · go_simp
      constructor
      · rfl
      · rfl
    refine hK.out _ _ ⟨(H7.out.on (below_alloc (Below.refl _ _) _)).c8, (H7.out.on (below_alloc (Below.refl _ _) _)).c7⟩ (fun hHeld => ?_)
    clear hK K
    refine norm_ (a' := ?_) ?_ ?_
    rotate_left
    · show Act.put _ (some 46) _ = _
      simp only [Act.put, zA, zZ, zS, i64_w, i32_w]
      rfl
    refine one_ (i := 12) (N := some 47) (zF 16 8191) rfl rfl (one_of HT_.out (by kernel_rfl)) (by decide) (fun K hK => ?_)
    obtain ⟨xe, hel, her⟩ := H7.out.re
    have HEL := Aside0.mk hel
    have HER := Aside0.mk her
    clear hel her
    refine Kd.R_append_step (Kd.raw 6) (w0 := w0) B (by rfl) (.tmp 39) (.tmp 46) 38 71 (.agg #[.int .i64 0, .int .i64 0, .int .u8 0, .int .i64 0, .slice none 0 0, .slice none 0 0]) 80 rfl Tryd.underlying38 info71 rfl (by decide) (by omega) ve xe [.int .i64 0, .int .i64 r0, .int .u8 0, .int .i64 0, .slice none 0 0, .slice none 0 0] [.int .i64 0, .int .i64 r0, .int .u8 0, .int .i64 0, .slice none 0 0, .slice none 0 0] (fun _ => True) (fun _ => False) rfl rfl ?aP (fun _ hk => hk.elim) (fun _ _ => trivial) HER.out H7.out.b H7.out.lt (by have := HEL.out; have := HBG.out; omega) ?_
    (case aP => exact ⟨rfl, rfl, fun u hu => by simp at hu; rcases hu with rfl | rfl | rfl | rfl | rfl | rfl <;> rfl⟩)
    intro v1 wz ho hb hg hat
    have HGe := Aside0.mk hg
    have HOe := Aside0.mk ho
    have HBe := Aside0.mk hb
    clear ho hb hg hat
    obtain ⟨A8, c8, e8⟩ : ∃ A c, v1 = .slice A (xe.length + 1) c := slice_snoc HOe.out
    subst e8
    have k8 := (H7.out.cell_grown HGe.out (H7.out.fm rfl (by decide) HER.out) 8).trans (show _ = some ve from rfl)
    have k7 := (H7.out.cell_grown HGe.out (H7.out.fm rfl (by decide) HER.out) 7).trans (show _ = some (.slice (some ⟨g1, 0, none⟩) L cap1) from rfl)
    have j8 := H7.out.free_grown HGe.out (H7.out.fm rfl (by decide) HER.out) 8
    refine hK.out _ _ ⟨k8, k7⟩ (fun hHeld => ?_)
    clear hK K
    refine norm_ (a' := ?_) ?_ ?_
    rotate_left
    · show Act.put _ (some 47) _ = _
      simp only [Act.put, zA, zZ, zS, i64_w, i32_w]
      rfl
    refine pure_ (i := 13) (N := some 48) (v := ?_) (a' := ?_) (zF 16 16383) rfl rfl (any_of HT_.out (by kernel_rfl)) (fun _ _ _ h => h) (Or.inl ⟨by rfl, ?_⟩) ?_ ?_
    rotate_left; (intro w'; go_simp; with_reducible rfl); rotate_left; (simp only [Act.put, zA, zZ, zS, i64_w, i32_w]; rfl)
    refine pure_ (i := 14) (N := some 49) (v := ?_) (a' := ?_) (zF 16 32767) rfl rfl (any_of HT_.out (by kernel_rfl)) (fun _ _ _ h => h) (Or.inl ⟨by rfl, ?_⟩) ?_ ?_
    rotate_left; (intro w'; go_simp; with_reducible rfl); rotate_left; (simp only [Act.put, zA, zZ, zS, i64_w, i32_w]; rfl)
    refine last_ (i := 15) (N := none) (zF 16 65535) rfl rfl (one_of HT_.out (by kernel_rfl)) (by decide) (fun K hK => ?_)
    refine skip_ (w1 := ?_) (by rfl) rfl ?_ ?_
    rotate_left
    · go_simp
      with_reducible rfl
    refine hK.out _ _ ?_
    clear hK K
    refine done_ (done_of HT_.out (by kernel_rfl)) ?_
    clear hHeld
    have HPE := H7.out.put_e HEL.out HER.out HOe.out HBe.out HGe.out
    have y2 := HPE.c2
    have yf := HPE.free 2
    have HE := Aside0.mk (HPE.set_st 0)
    clear HPE
    go_wp2
    go_ret
    exact ⟨by rw [HV.out]; rfl, vd, _, _, by rw [HT.out]; exact HE.out⟩
end Go.Proofs.YtmpmfdghdaofhaaDoor.Sp

namespace Go.Proofs.YtmpmfdghdaofhaaDoor.Sp
set_option linter.unusedVariables false
set_option linter.unusedSimpArgs false
open Go Go.RowKit Go.Proofs.YtmpmfdghdaofhaaDoor.Pm Go.Proofs.YtmpmfdghdaofhaaDoorW.PrintWords Go.Proofs.YtmpmfdghdaofhaaDoorW.PrintLast Go.Proofs.YtmpmfdghdaofhaaDoorW.PrintMore
theorem made_q (n : Nat) : madeCells (Value.int .i64 0).cells n = cellsP (List.replicate n 0) := by
  apply Array.ext_getElem?
  intro i
  show (madeCells #[.int .i64 0] n)[i]? = (cellsP (List.replicate n 0))[i]?
  by_cases h : i < n
  · simp [madeCells, cellsP, h, Nat.mod_one]
  · simp [madeCells, cellsP, h]
def s0 (n : Nat) : SM := ⟨List.replicate n 0, [], [], 0, 0, 0⟩
set_option maxHeartbeats 8000000 in
set_option maxRecDepth 100000 in
theorem newMachine_ (w : World) (n : Nat) (D : Int) (hn : n ≤ 1000000) :
    Calls Tryd.prog 14 #[.int .i64 (n : Int), .int .i64 D] w fun e w' => ∃ gm gq, e = .returned (.pointer (some ⟨gm, 0, none⟩)) ∧ MV w.heap.size w w' gm gq n D 0 (s0 n) (.slice none 0 0) (.slice none 0 0) (.slice none 0 0) := by
  have hmk : ∀ w_ : World, (Instr.makeSlice 35 (.int .i64 (n : Int)) (.int .i64 (n : Int))).run Tryd.prog w_ = .ok (.slice (some ⟨w_.heap.size, 0, none⟩) n n) (w_.alloc (.cells (cellsP (List.replicate n 0)) 2)) := by
    intro w_
    obtain ⟨i, hi, hz⟩ := Option.map_eq_some_iff.1 (show (Tryd.prog.info? 2).map (fun i => (i.zero, i.size, i.bytes)) = some (some (.int .i64 0), 1, 8) by kernel_rfl)
    simp only [Prod.mk.injEq] at hz
    obtain ⟨hz0, hz1, hz2⟩ := hz
    have := run_make_row (P := Tryd.prog) 35 2 i (.int .i64 0) Tryd.underlying35 hi hz0 hz1 rfl .i64 .i64 n (by rw [hz2]; omega) (by omega) w_
    rw [show madeCells #[Value.int .i64 0] n = cellsP (List.replicate n 0) from made_q n] at this
    exact this
  obtain ⟨cp, hcp⟩ : ∃ cp, cp = cellsP (List.replicate n 0) := ⟨_, rfl⟩
  rw [← hcp] at hmk
  have HCP := Aside0.mk hcp
  clear hcp hn
  go_enter Tryd.func14, Tryd.ntmps14
  go_wp2_with (first | ((with_reducible refine gate_dst (N := 10) rfl ?_); refine box_event ?hg (N := 10) ?hd (cs := #[.int .i64 (n : Int), .int .i64 D, .int .i64 0, .int .i64 0, .int .i64 0, .slice (some ⟨w.heap.size, 0, none⟩) n n, .slice none 0 0, .slice none 0 0, .slice none 0 0]) (t := 40) ?hr ?_; (case hd => rfl); (case hg => rfl); (case hr => first | (go_simp; done) | (go_simp; rfl)); intro gm hgm w2 hbox hb2; have O2 := Aside0.mk hbox; have B2 := Aside0.mk hb2; have GM := Aside0.mk hgm; clear hbox hb2 hgm) | fail)
  go_ret
  have hbA := below_alloc (Below.refl w.heap.size w) (.cells cp 2)
  have hq : (w.alloc (.cells cp 2)).heap[w.heap.size]? = some (.cells cp 2 (0, 0)) := blk_new w _
  refine ⟨gm, w.heap.size, rfl, ⟨O2.out.trans rfl, ((B2.out.block _ (blk_lt hq)).trans hq).trans (by rw [HCP.out]; rfl), Kd.R_nil _ _ _ _ _, Kd.R_nil _ _ _ _ _, ⟨[], Nat.le_refl _, Kd.R_nil _ _ _ _ _⟩, fun k hk => by simp [Value.ownBlock] at hk, List.length_replicate, Nat.le_refl _, Nat.le_refl _, below_step hbA B2.out, ?_, Nat.le_refl _⟩⟩
  rw [GM.out]
  exact hbA.size
end Go.Proofs.YtmpmfdghdaofhaaDoor.Sp
