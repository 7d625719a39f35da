/- Texts of this claim, joined; what isn't needed is left out (wip/slim.py). -/
import Derived.Test.YtmpmfdghdaofhaaDoorZH18
namespace Go.Proofs.YtmpmfdghdaofhaaDoor.Sp
set_option linter.unusedVariables false
set_option linter.unusedSimpArgs false
open Go Go.RowKit Go.Proofs.YtmpmfdghdaofhaaDoor.Pm Go.Proofs.YtmpmfdghdaofhaaDoorW.PrintWords Go.Proofs.YtmpmfdghdaofhaaDoorW.PrintLast Go.Proofs.YtmpmfdghdaofhaaDoorW.PrintMore
def d0T : Bool × List (List Nat × List Nat) := (true, [([], []), ([0], [0]), ([1], [1]), ([2], [2]), ([3], [3]), ([4], [4]), ([5], [5]), ([6, 5], [5, 6]), ([7, 5], [5, 7]), ([8, 5], [5, 8]), ([5], [5]), ([10, 5], [5, 10]), ([11, 5], [5, 11]), ([12, 5], [5, 12]), ([13, 5], [5, 13]), ([9, 14, 5], [5, 9, 14]), ([5, 15], [5, 15]), ([16, 5], [16]), ([17], [17]), ([18, 17], [17, 18]), ([19, 17], [17, 19]), ([20, 17], [17, 20]), ([21, 17], [17, 21]), ([22, 17, 17], [17, 22]), ([23], [23]), ([24, 23], [23, 24]), ([25, 23], [23, 25]), ([26, 23], [23, 26]), ([27, 23], [23, 27]), ([23, 28, 17], [17, 23, 28]), ([29, 23, 17], [17, 29]), ([30], [30]), ([31, 30], [30, 31]), ([32, 30], [30, 32]), ([33, 30], [30, 33]), ([34, 30], [30, 34]), ([35, 30], [30, 35]), ([36, 30], [30, 36]), ([30, 37, 17], [17, 30, 37]), ([17, 38], [17, 38])])
def d0B : List Nat := [0, 1, 3, 7, 15, 31, 63, 127, 255, 511, 63, 1087, 3135, 7231, 15423, 32767, 65535, 131071, 262143, 524287, 1048575, 2097151, 4194303, 8388607, 16777215, 33554431, 67108863, 134217727, 268435455, 536870911, 1073741823, 2147483647, 4294967295, 8589934591, 17179869183, 34359738367, 68719476735, 137438953471, 274877906943, 549755813887]
theorem d0_tab : rtab .any (opsOf Tryd.f56 0) = d0T := by kernel_rfl
theorem d0_bits : waitsOk d0T.2 d0B = true := by kernel_rfl
def e10T : Bool × List (List Nat × List Nat) := (true, [([], []), ([], []), ([1], [1]), ([2], [2]), ([3], [3]), ([], []), ([5], [5]), ([6], [6]), ([7], [7]), ([], []), ([9], [9]), ([8, 10], [8, 10]), ([11], [11]), ([4, 12, 10], [4, 12]), ([0, 0, 1, 2, 3, 4, 5, 6, 7, 8, 9, 10, 11, 12, 13], [0]), ([14, 0, 1, 2, 3, 4, 5, 6, 7, 8, 9, 10, 11, 12, 13], [14]), ([15, 13, 13, 0, 1, 2, 3, 4, 5, 6, 7, 8, 9, 10, 11, 12, 13], [13, 15])])
def e10B : List Nat := [0, 0, 2, 6, 14, 0, 32, 96, 224, 0, 512, 2016, 4064, 8190, 16383, 32767, 65535]
theorem e10_tab : rtab .any (opsOf Tryd.f56 10) = e10T := by kernel_rfl
theorem e10_bits : waitsOk e10T.2 e10B = true := by kernel_rfl
def e19T : Bool × List (List Nat × List Nat) := (true, [([], []), ([], []), ([1], [1]), ([2], [2]), ([3], [3]), ([], []), ([5], [5]), ([6], [6]), ([7], [7]), ([], []), ([9], [9]), ([], []), ([8, 10, 11], [8, 10, 11]), ([12], [12]), ([4, 13, 10], [4, 13]), ([0, 0, 1, 2, 3, 4, 5, 6, 7, 8, 9, 10, 11, 12, 13, 14], [0]), ([15, 0, 1, 2, 3, 4, 5, 6, 7, 8, 9, 10, 11, 12, 13, 14], [15]), ([16, 14, 14, 0, 1, 2, 3, 4, 5, 6, 7, 8, 9, 10, 11, 12, 13, 14], [14, 16])])
def e19B : List Nat := [0, 0, 2, 6, 14, 0, 32, 96, 224, 0, 512, 0, 4064, 8160, 16382, 32767, 65535, 131071]
theorem e19_tab : rtab .any (opsOf Tryd.f56 19) = e19T := by kernel_rfl
theorem e19_bits : waitsOk e19T.2 e19B = true := by kernel_rfl
def e14T : Bool × List (List Nat × List Nat) := (true, [([], []), ([], []), ([1], [1]), ([2], [2]), ([3], [3]), ([], []), ([5], [5]), ([6], [6]), ([7], [7]), ([8], [8]), ([9], [9]), ([4, 10], [4, 10]), ([0, 0, 1, 2, 3, 4, 5, 6, 7, 8, 9, 10, 11], [0]), ([12, 0, 1, 2, 3, 4, 5, 6, 7, 8, 9, 10, 11], [12]), ([13, 11, 11, 0, 1, 2, 3, 4, 5, 6, 7, 8, 9, 10, 11], [11, 13])])
def e14B : List Nat := [0, 0, 2, 6, 14, 0, 32, 96, 224, 480, 992, 2046, 4095, 8191, 16383]
theorem e14_tab : rtab .any (opsOf Tryd.f56 14) = e14T := by kernel_rfl
theorem e14_bits : waitsOk e14T.2 e14B = true := by kernel_rfl
def e21T : Bool × List (List Nat × List Nat) := (true, [([], []), ([], []), ([1], [1]), ([2], [2]), ([3], [3]), ([], []), ([5], [5]), ([6], [6]), ([7], [7]), ([], []), ([8, 9], [8, 9]), ([10], [10]), ([4, 11], [4, 11]), ([0, 0, 1, 2, 3, 4, 5, 6, 7, 8, 9, 10, 11, 12], [0]), ([13, 0, 1, 2, 3, 4, 5, 6, 7, 8, 9, 10, 11, 12], [13]), ([14, 12, 12, 0, 1, 2, 3, 4, 5, 6, 7, 8, 9, 10, 11, 12], [12, 14])])
def e21B : List Nat := [0, 0, 2, 6, 14, 0, 32, 96, 224, 0, 992, 2016, 4094, 8191, 16383, 32767]
theorem e21_tab : rtab .any (opsOf Tryd.f56 21) = e21T := by kernel_rfl
theorem e21_bits : waitsOk e21T.2 e21B = true := by kernel_rfl
def sdq (n : Nat) (s : SM) : Bool := decide ((0 < s.cnt ∧ s.cnt + 1 < n) ∨ (s.cnt = 0 ∧ 0 < n ∧ s.ps.getD 0 0 ≠ 2147483647))
def sdc (s : SM) : Int := if s.st = 10 ∧ s.cmd = 2147483647 then pnum s.da s.cmd else s.cmd
def sde (s : SM) (b : Int) : Int := if s.st = 1 ∨ s.st = 2 ∨ s.st = 3 ∨ s.st = 8 ∨ s.st = 9 then Go.bits .or .i64 (sdc s) b else sdc s
def sdisp (n : Nat) (s : SM) (b : Int) : SM := ⟨s.ps, s.da, s.pt, if sdq n s then s.cnt + 1 else s.cnt, sde s b, s.st⟩
def sdev (t : SM) : EV :=
  if t.st ≤ 3 then ⟨2, 0, 0, t.cmd, t.ps.take t.cnt, []⟩ else if t.st ≤ 7 then ⟨4, 0, 0, t.cmd, t.ps.take t.cnt, t.da⟩ else if t.st ≤ 9 then ⟨3, 0, 0, t.cmd, [], []⟩
  else if t.st = 10 then ⟨5, 0, 0, t.cmd, [], t.da⟩ else if t.st = 12 then ⟨6, 0, 0, 0, [], t.da⟩ else if t.st = 13 then ⟨7, 0, 0, 0, [], t.da⟩ else ⟨8, 0, 0, 0, [], t.da⟩
theorem sdisp_in (n : Nat) (s : SM) (b : Int) (k2 : Nat) (c2 : Int) (hk : k2 = if sdq n s then s.cnt + 1 else s.cnt) (hc : c2 = sdc s) (hst : s.st = 1 ∨ s.st = 2 ∨ s.st = 3 ∨ s.st = 8 ∨ s.st = 9) : sdisp n s b = ⟨s.ps, s.da, s.pt, k2, Go.bits .or .i64 c2 b, s.st⟩ := by
  unfold sdisp sde
  rw [if_pos hst, ← hk, ← hc]
theorem sdisp_out (n : Nat) (s : SM) (b : Int) (k2 : Nat) (c2 : Int) (hk : k2 = if sdq n s then s.cnt + 1 else s.cnt) (hc : c2 = sdc s) (hst : ¬ (s.st = 1 ∨ s.st = 2 ∨ s.st = 3 ∨ s.st = 8 ∨ s.st = 9)) : sdisp n s b = ⟨s.ps, s.da, s.pt, k2, c2, s.st⟩ := by
  unfold sdisp sde
  rw [if_neg hst, ← hk, ← hc]
set_option maxHeartbeats 8000000 in
set_option maxRecDepth 100000 in
theorem disp_ (B : Nat) (w0 w : World) (gm gq n T : Nat) (D : Int) (s : SM) (vd vp : Value) (ve : VE) (h : MV B w0 w gm gq n D T s vd vp ve) (b : Int) (hb0 : 0 ≤ b) (hb1 : b < 256) (hbig : T ≤ 1000000) (hst : 1 ≤ s.st ∧ s.st ≤ 13) (hpl : s.cnt ≤ n) (hnb : n ≤ 1000000) (hn0 : 0 < n) :
    Calls Tryd.prog 56 #[.pointer (some ⟨gm, 0, none⟩), .int .u8 b] w fun e w' => e = .returned (.tuple #[]) ∧ ∃ v8, MV B w0 w' gm gq n D (T + 1) (sdisp n s b) vd vp ⟨v8, ve.e ++ [sdev (sdisp n s b)]⟩ := by
  have hwb : wrap64 b = b := by unfold wrap64; omega
  obtain ⟨ps, da, pt, cnt, cmd, st⟩ := s
  replace hst : 1 ≤ st ∧ st ≤ 13 := hst
  replace hpl : cnt ≤ n := hpl
  obtain ⟨tq, htq⟩ : ∃ t, t = sdq n ⟨ps, da, pt, cnt, cmd, st⟩ := ⟨_, rfl⟩
  obtain ⟨k2, hk2⟩ : ∃ k, k = (if tq then cnt + 1 else cnt) := ⟨_, rfl⟩
  obtain ⟨tp, htp⟩ : ∃ t, t = decide (st = 10 ∧ cmd = 2147483647) := ⟨_, rfl⟩
  obtain ⟨c2, hc2⟩ : ∃ c, c = sdc ⟨ps, da, pt, cnt, cmd, st⟩ := ⟨_, rfl⟩
  have HKN := Aside0.mk (show k2 ≤ n ∧ k2 ≤ 1000000 from by
    have hk : k2 ≤ n := by
      rw [hk2]
      cases hq : tq with
      | false => exact hpl
      | true =>
        have h_ := of_decide_eq_true (htq.symm.trans hq : sdq n ⟨ps, da, pt, cnt, cmd, st⟩ = true)
        rcases h_ with h_ | h_
        · exact Nat.le_of_lt h_.2
        · show cnt + 1 ≤ n
          have h1 : cnt = 0 := h_.1
          omega
    exact ⟨hk, by omega⟩)
  have HTQ := Aside0.mk htq
  have HK2 := Aside0.mk hk2
  have HTP := Aside0.mk htp
  have HC2 := Aside0.mk hc2
  have HBG := Aside0.mk hbig
  have HST := Aside0.mk hst
  have HNB := Aside0.mk hnb
  have HN0 := Aside0.mk hn0
  have HPB := Aside0.mk (show cnt ≤ 1000000 by omega)
  clear hbig hst hpl hnb hn0 htq hk2 htp hc2 hb0 hb1
  obtain ⟨w1, hw1⟩ : ∃ w1, w1 = w := ⟨_, rfl⟩
  rw [← hw1]
  have H1 := Aside0.mk (show MV B w0 w1 gm gq n D T ⟨ps, da, pt, cnt, cmd, st⟩ vd vp ve by rw [hw1]; exact h)
  clear hw1 h
  go_enter Tryd.func56, Tryd.ntmps56
  go_upto_region 0 with (fail)
  go_cut [44] from 5 to 44 (fun v wc => v = .bool tq ∧ Aside0 (MV B w0 wc gm gq n D T ⟨ps, da, pt, cnt, cmd, st⟩ vd vp ve))
  case first =>
    by_cases hpos : 0 < cnt
    · have tpos : decide ((0 : Int) < (cnt : Int)) = true := decide_eq_true (by omega)
      have tz : ((cnt : Int) == 0) = false := by simp; omega
      have hwn : wrap64 ((n : Int) - 1) = (n : Int) - 1 := by have := HNB.out; unfold wrap64; omega
      by_cases hl : cnt + 1 < n
      · have tl : decide ((cnt : Int) < (n : Int) - 1) = true := decide_eq_true (by omega)
        have htq : tq = true := by rw [HTQ.out]; unfold sdq; exact decide_eq_true (.inl ⟨hpos, hl⟩)
        have HT2 := Aside0.mk htq
        clear htq
        refine start_ (n := 40) (S := (fun w' => w'.cell? ⟨gm, 0, none⟩ = some (.int .i64 (n : Int)) ∧ w'.cell? ⟨gm, 3, none⟩ = some (.int .i64 (cnt : Int)))) (ds := []) #[false, false, false, false, false, false, false, false, false, false, false, false, false, false, false, false, false, false, false, false, false, false, false, false, false, false, false, false, false, false, false, false, false, false, false, false, false, false, false, false] (by kernel_rfl) rfl rfl ⟨H1.out.c0, H1.out.c3⟩ (fun hHeld => ?_)
        refine with_tabW d0_tab d0_bits (fun HT_ HW_ => ?_)
        have H2d := Aside0.mk (show MV B w0 w1.drew gm gq n D T ⟨ps, da, pt, cnt, cmd, st⟩ vd vp ve from H1.out.drew)
        clear H1
        generalize w1.drew = w2d at H2d hHeld ⊢
        refine pure_ (i := 0) (N := some 5) (v := ?_) (a' := ?_) (zF 40 1) rfl rfl (any_of HT_.out (by kernel_rfl)) (fun _ _ _ h => h) (Or.inl ⟨by rfl, ?_⟩) ?_ ?_
        rotate_left; (intro w'; go_simp; with_reducible rfl); rotate_left; (simp only [Act.put, zA, zZ, zS, i64_w, i32_w]; rfl)
        refine pure_ (i := 1) (N := some 6) (v := ?_) (a' := ?_) (zF 40 3) rfl rfl (any_of HT_.out (by kernel_rfl)) (fun _ _ _ h => h) (Or.inl ⟨by rfl, ?_⟩) ?_ ?_
        rotate_left; (intro w'; go_simp; with_reducible rfl); rotate_left; (simp only [Act.put, zA, zZ, zS, i64_w, i32_w]; rfl)
        refine pure_ (i := 2) (N := some 7) (v := ?_) (a' := ?_) (zF 40 7) rfl rfl (any_of HT_.out (by kernel_rfl)) (fun _ _ _ h => h) (Or.inl ⟨by rfl, ?_⟩) ?_ ?_
        rotate_left; (intro w'; go_simp; with_reducible rfl); rotate_left; (simp only [Act.put, zA, zZ, zS, i64_w, i32_w]; rfl)
        refine take_ (i := 3) (N := some 8) (v := ?_) (a' := ?_) (zF 40 15) rfl rfl (take_ofW HT_.out HW_.out (by kernel_rfl)) (fun _ _ _ h => h) (Or.inl ⟨by rfl, ?_⟩) hHeld ?_ ?_
        rotate_left; (rintro w' ⟨s0, s1⟩; go_simp; with_reducible rfl); rotate_left; (simp only [Act.put, zA, zZ, zS, i64_w, i32_w]; rfl)
        refine pure_ (i := 4) (N := some 9) (v := ?_) (a' := ?_) (zF 40 31) rfl rfl (any_of HT_.out (by kernel_rfl)) (fun _ _ _ h => h) (Or.inl ⟨by rfl, ?_⟩) ?_ ?_
        rotate_left; (intro w'; go_simp; with_reducible rfl); rotate_left; (simp only [Act.put, zA, zZ, zS, i64_w, i32_w]; rfl)
        refine pure_ (i := 5) (N := some 10) (v := ?_) (a' := ?_) (zF 40 63) rfl rfl (any_of HT_.out (by kernel_rfl)) (fun _ _ _ h => h) (Or.inl ⟨by rfl, ?_⟩) ?_ ?_
        rotate_left; (intro w'; go_simp; with_reducible rfl); rotate_left; (simp only [Act.put, zA, zZ, zS, i64_w, i32_w]; rfl)
        refine pure_ (i := 6) (N := some 11) (v := ?_) (a' := ?_) (zF 40 127) rfl rfl (any_of HT_.out (by kernel_rfl)) (fun _ _ _ h => h) (Or.inl ⟨by rfl, ?_⟩) ?_ ?_
        rotate_left; (intro w'; go_simp; with_reducible rfl); rotate_left; (simp only [Act.put, zA, zZ, zS, i64_w, i32_w]; rfl)
        refine pure_ (i := 7) (N := some 12) (v := ?_) (a' := ?_) (zF 40 255) rfl rfl (any_of HT_.out (by kernel_rfl)) (fun _ _ _ h => h) (Or.inl ⟨by rfl, ?_⟩) ?_ ?_
        rotate_left; (intro w'; go_simp; with_reducible rfl); rotate_left; (simp only [Act.put, zA, zZ, zS, i64_w, i32_w]; rfl)
        refine pure_ (i := 8) (N := some 13) (v := ?_) (a' := ?_) (zF 40 511) rfl rfl (any_of HT_.out (by kernel_rfl)) (fun _ _ _ h => h) (Or.inl ⟨by rfl, ?_⟩) ?_ ?_
        rotate_left; (intro w'; go_simp; with_reducible rfl); rotate_left; (simp only [Act.put, zA, zZ, zS, i64_w, i32_w]; rfl)
        refine pure_ (i := 10) (N := some 15) (v := ?_) (a' := ?_) (zF 40 1535) rfl rfl (any_of HT_.out (by kernel_rfl)) (fun _ _ _ h => h) (Or.inl ⟨by rfl, ?_⟩) ?_ ?_
        rotate_left; (intro w'; go_simp; with_reducible rfl); rotate_left; (simp only [Act.put, zA, zZ, zS, i64_w, i32_w]; rfl)
        refine pure_ (i := 11) (N := some 16) (v := ?_) (a' := ?_) (zF 40 3583) rfl rfl (any_of HT_.out (by kernel_rfl)) (fun _ _ _ h => h) (Or.inl ⟨by rfl, ?_⟩) ?_ ?_
        rotate_left; (intro w'; go_simp; with_reducible rfl); rotate_left; (simp only [Act.put, zA, zZ, zS, i64_w, i32_w]; rfl)
        refine pure_ (i := 12) (N := some 17) (v := ?_) (a' := ?_) (zF 40 7679) rfl rfl (any_of HT_.out (by kernel_rfl)) (fun _ _ _ h => h) (Or.inl ⟨by rfl, ?_⟩) ?_ ?_
        rotate_left; (intro w'; go_simp; with_reducible rfl); rotate_left; (simp only [Act.put, zA, zZ, zS, i64_w, i32_w]; rfl)
        refine take_ (i := 9) (N := some 14) (v := ?_) (a' := ?_) (zF 40 8191) rfl rfl (take_ofW HT_.out HW_.out (by kernel_rfl)) (fun _ _ _ h => h) (Or.inl ⟨by rfl, ?_⟩) hHeld ?_ ?_
        rotate_left; (rintro w' ⟨s0, s1⟩; go_simp; with_reducible rfl); rotate_left; (simp only [Act.put, zA, zZ, zS, i64_w, i32_w]; rfl)
        refine take_ (i := 13) (N := some 18) (v := ?_) (a' := ?_) (zF 40 16383) rfl rfl (take_ofW HT_.out HW_.out (by kernel_rfl)) (fun _ _ _ h => h) (Or.inl ⟨by rfl, ?_⟩) hHeld ?_ ?_
        rotate_left; (rintro w' ⟨s0, s1⟩; go_simp; with_reducible rfl); rotate_left; (simp only [Act.put, zA, zZ, zS, i64_w, i32_w]; rfl)
        refine pure_ (i := 14) (N := some 19) (v := ?_) (a' := ?_) (zF 40 32767) rfl rfl (any_of HT_.out (by kernel_rfl)) (fun _ _ _ h => h) (Or.inl ⟨by rfl, ?_⟩) ?_ ?_
        rotate_left; (intro w'; go_simp; with_reducible rfl); rotate_left; (simp only [Act.put, zA, zZ, zS, i64_w, i32_w]; rfl)
        refine pure_ (i := 15) (N := some 20) (v := ?_) (a' := ?_) (zF 40 65535) rfl rfl (any_of HT_.out (by kernel_rfl)) (fun _ _ _ h => h) (Or.inl ⟨by rfl, ?_⟩) ?_ ?_
        rotate_left; (intro w'; go_simp; with_reducible rfl); rotate_left; (simp only [Act.put, zA, zZ, zS, i64_w, i32_w]; rfl)
        refine pure_ (i := 16) (N := some 21) (v := ?_) (a' := ?_) (zF 40 131071) rfl rfl (any_of HT_.out (by kernel_rfl)) (fun _ _ _ h => h) (Or.inl ⟨by rfl, ?_⟩) ?_ ?_
        rotate_left; (intro w'; go_simp; with_reducible rfl); rotate_left; (simp only [Act.put, zA, zZ, zS, i64_w, i32_w]; rfl)
        refine pure_ (i := 17) (N := some 22) (v := ?_) (a' := ?_) (zF 40 262143) rfl rfl (any_of HT_.out (by kernel_rfl)) (fun _ _ _ h => h) (Or.inl ⟨by rfl, ?_⟩) ?_ ?_
        rotate_left; (intro w'; go_simp; with_reducible rfl); rotate_left; (simp only [Act.put, zA, zZ, zS, i64_w, i32_w]; rfl)
        refine pure_ (i := 18) (N := some 23) (v := undef) (a' := ?_) (zF 40 524287) rfl rfl (any_of HT_.out (by kernel_rfl)) (fun _ _ _ h => h) (Or.inr ⟨by rfl, rfl⟩) ?_ ?_
        rotate_left
        · simp only [Act.put, zA, zZ, zS, i64_w, i32_w]
          rfl
        refine pure_ (i := 19) (N := some 24) (v := undef) (a' := ?_) (zF 40 1048575) rfl rfl (any_of HT_.out (by kernel_rfl)) (fun _ _ _ h => h) (Or.inr ⟨by rfl, rfl⟩) ?_ ?_
        rotate_left
        · simp only [Act.put, zA, zZ, zS, i64_w, i32_w]
          rfl
        refine pure_ (i := 20) (N := some 25) (v := undef) (a' := ?_) (zF 40 2097151) rfl rfl (any_of HT_.out (by kernel_rfl)) (fun _ _ _ h => h) (Or.inr ⟨by rfl, rfl⟩) ?_ ?_
        rotate_left
        · simp only [Act.put, zA, zZ, zS, i64_w, i32_w]
          rfl
        refine pure_ (i := 21) (N := some 26) (v := undef) (a' := ?_) (zF 40 4194303) rfl rfl (any_of HT_.out (by kernel_rfl)) (fun _ _ _ h => h) (Or.inr ⟨by rfl, rfl⟩) ?_ ?_
        rotate_left
        · simp only [Act.put, zA, zZ, zS, i64_w, i32_w]
          rfl
        refine pure_ (i := 22) (N := some 27) (v := undef) (a' := ?_) (zF 40 8388607) rfl rfl (any_of HT_.out (by kernel_rfl)) (fun _ _ _ h => h) (Or.inr ⟨by rfl, rfl⟩) ?_ ?_
        rotate_left
        · simp only [Act.put, zA, zZ, zS, i64_w, i32_w]
          rfl
        refine pure_ (i := 23) (N := some 28) (v := undef) (a' := ?_) (zF 40 16777215) rfl rfl (any_of HT_.out (by kernel_rfl)) (fun _ _ _ h => h) (Or.inr ⟨by rfl, rfl⟩) ?_ ?_
        rotate_left
        · simp only [Act.put, zA, zZ, zS, i64_w, i32_w]
          rfl
        refine pure_ (i := 24) (N := some 29) (v := undef) (a' := ?_) (zF 40 33554431) rfl rfl (any_of HT_.out (by kernel_rfl)) (fun _ _ _ h => h) (Or.inr ⟨by rfl, rfl⟩) ?_ ?_
        rotate_left
        · simp only [Act.put, zA, zZ, zS, i64_w, i32_w]
          rfl
        refine pure_ (i := 25) (N := some 30) (v := undef) (a' := ?_) (zF 40 67108863) rfl rfl (any_of HT_.out (by kernel_rfl)) (fun _ _ _ h => h) (Or.inr ⟨by rfl, rfl⟩) ?_ ?_
        rotate_left
        · simp only [Act.put, zA, zZ, zS, i64_w, i32_w]
          rfl
        refine pure_ (i := 26) (N := some 31) (v := undef) (a' := ?_) (zF 40 134217727) rfl rfl (any_of HT_.out (by kernel_rfl)) (fun _ _ _ h => h) (Or.inr ⟨by rfl, rfl⟩) ?_ ?_
        rotate_left
        · simp only [Act.put, zA, zZ, zS, i64_w, i32_w]
          rfl
        refine pure_ (i := 27) (N := some 32) (v := undef) (a' := ?_) (zF 40 268435455) rfl rfl (any_of HT_.out (by kernel_rfl)) (fun _ _ _ h => h) (Or.inr ⟨by rfl, rfl⟩) ?_ ?_
        rotate_left
        · simp only [Act.put, zA, zZ, zS, i64_w, i32_w]
          rfl
        refine pure_ (i := 28) (N := some 33) (v := undef) (a' := ?_) (zF 40 536870911) rfl rfl (any_of HT_.out (by kernel_rfl)) (fun _ _ _ h => h) (Or.inr ⟨by rfl, rfl⟩) ?_ ?_
        rotate_left
        · simp only [Act.put, zA, zZ, zS, i64_w, i32_w]
          rfl
        refine pure_ (i := 29) (N := some 34) (v := undef) (a' := ?_) (zF 40 1073741823) rfl rfl (any_of HT_.out (by kernel_rfl)) (fun _ _ _ h => h) (Or.inr ⟨by rfl, rfl⟩) ?_ ?_
        rotate_left
        · simp only [Act.put, zA, zZ, zS, i64_w, i32_w]
          rfl
        refine pure_ (i := 30) (N := some 35) (v := undef) (a' := ?_) (zF 40 2147483647) rfl rfl (any_of HT_.out (by kernel_rfl)) (fun _ _ _ h => h) (Or.inr ⟨by rfl, rfl⟩) ?_ ?_
        rotate_left
        · simp only [Act.put, zA, zZ, zS, i64_w, i32_w]
          rfl
        refine pure_ (i := 31) (N := some 36) (v := undef) (a' := ?_) (zF 40 4294967295) rfl rfl (any_of HT_.out (by kernel_rfl)) (fun _ _ _ h => h) (Or.inr ⟨by rfl, rfl⟩) ?_ ?_
        rotate_left
        · simp only [Act.put, zA, zZ, zS, i64_w, i32_w]
          rfl
        refine pure_ (i := 32) (N := some 37) (v := undef) (a' := ?_) (zF 40 8589934591) rfl rfl (any_of HT_.out (by kernel_rfl)) (fun _ _ _ h => h) (Or.inr ⟨by rfl, rfl⟩) ?_ ?_
        rotate_left
        · simp only [Act.put, zA, zZ, zS, i64_w, i32_w]
          rfl
        refine pure_ (i := 33) (N := some 38) (v := undef) (a' := ?_) (zF 40 17179869183) rfl rfl (any_of HT_.out (by kernel_rfl)) (fun _ _ _ h => h) (Or.inr ⟨by rfl, rfl⟩) ?_ ?_
        rotate_left
        · simp only [Act.put, zA, zZ, zS, i64_w, i32_w]
          rfl
        refine pure_ (i := 34) (N := some 39) (v := undef) (a' := ?_) (zF 40 34359738367) rfl rfl (any_of HT_.out (by kernel_rfl)) (fun _ _ _ h => h) (Or.inr ⟨by rfl, rfl⟩) ?_ ?_
        rotate_left
        · simp only [Act.put, zA, zZ, zS, i64_w, i32_w]
          rfl
        refine pure_ (i := 35) (N := some 40) (v := undef) (a' := ?_) (zF 40 68719476735) rfl rfl (any_of HT_.out (by kernel_rfl)) (fun _ _ _ h => h) (Or.inr ⟨by rfl, rfl⟩) ?_ ?_
        rotate_left
        · simp only [Act.put, zA, zZ, zS, i64_w, i32_w]
          rfl
        refine pure_ (i := 36) (N := some 41) (v := undef) (a' := ?_) (zF 40 137438953471) rfl rfl (any_of HT_.out (by kernel_rfl)) (fun _ _ _ h => h) (Or.inr ⟨by rfl, rfl⟩) ?_ ?_
        rotate_left
        · simp only [Act.put, zA, zZ, zS, i64_w, i32_w]
          rfl
        refine pure_ (i := 37) (N := some 42) (v := undef) (a' := ?_) (zF 40 274877906943) rfl rfl (any_of HT_.out (by kernel_rfl)) (fun _ _ _ h => h) (Or.inr ⟨by rfl, rfl⟩) ?_ ?_
        rotate_left
        · simp only [Act.put, zA, zZ, zS, i64_w, i32_w]
          rfl
        refine pure_ (i := 38) (N := some 43) (v := undef) (a' := ?_) (zF 40 549755813887) rfl rfl (any_of HT_.out (by kernel_rfl)) (fun _ _ _ h => h) (Or.inr ⟨by rfl, rfl⟩) ?_ ?_
        rotate_left
        · simp only [Act.put, zA, zZ, zS, i64_w, i32_w]
          rfl
        refine pure_ (i := 39) (N := some 44) (v := ?_) (a' := ?_) (zF 40 1099511627775) rfl rfl (any_of HT_.out (by kernel_rfl)) (fun _ _ _ h => h) (Or.inl ⟨by rfl, ?_⟩) ?_ ?_
        rotate_left; (intro w'; go_simp; with_reducible rfl); rotate_left; (simp only [Act.put, zA, zZ, zS, i64_w, i32_w]; rfl)
        refine done_ (done_of HT_.out (by kernel_rfl)) ?_
        clear hHeld
        go_wp2
        go_meet
        case rel => exact ⟨by rw [HT2.out], ⟨H2d.out⟩⟩
      · have tl : decide ((cnt : Int) < (n : Int) - 1) = false := decide_eq_false (by omega)
        have htq : tq = false := by rw [HTQ.out]; unfold sdq; exact decide_eq_false (by show ¬ ((0 < cnt ∧ cnt + 1 < n) ∨ (cnt = 0 ∧ 0 < n ∧ ps.getD 0 0 ≠ 2147483647)); omega)
        have HT2 := Aside0.mk htq
        clear htq
        refine start_ (n := 40) (S := (fun w' => w'.cell? ⟨gm, 0, none⟩ = some (.int .i64 (n : Int)) ∧ w'.cell? ⟨gm, 3, none⟩ = some (.int .i64 (cnt : Int)))) (ds := []) #[false, false, false, false, false, false, false, false, false, false, false, false, false, false, false, false, false, false, false, false, false, false, false, false, false, false, false, false, false, false, false, false, false, false, false, false, false, false, false, false] (by kernel_rfl) rfl rfl ⟨H1.out.c0, H1.out.c3⟩ (fun hHeld => ?_)
        refine with_tabW d0_tab d0_bits (fun HT_ HW_ => ?_)
        have H2d := Aside0.mk (show MV B w0 w1.drew gm gq n D T ⟨ps, da, pt, cnt, cmd, st⟩ vd vp ve from H1.out.drew)
        clear H1
        generalize w1.drew = w2d at H2d hHeld ⊢
        refine pure_ (i := 0) (N := some 5) (v := ?_) (a' := ?_) (zF 40 1) rfl rfl (any_of HT_.out (by kernel_rfl)) (fun _ _ _ h => h) (Or.inl ⟨by rfl, ?_⟩) ?_ ?_
        rotate_left; (intro w'; go_simp; with_reducible rfl); rotate_left; (simp only [Act.put, zA, zZ, zS, i64_w, i32_w]; rfl)
        refine pure_ (i := 1) (N := some 6) (v := ?_) (a' := ?_) (zF 40 3) rfl rfl (any_of HT_.out (by kernel_rfl)) (fun _ _ _ h => h) (Or.inl ⟨by rfl, ?_⟩) ?_ ?_
        rotate_left; (intro w'; go_simp; with_reducible rfl); rotate_left; (simp only [Act.put, zA, zZ, zS, i64_w, i32_w]; rfl)
        refine pure_ (i := 2) (N := some 7) (v := ?_) (a' := ?_) (zF 40 7) rfl rfl (any_of HT_.out (by kernel_rfl)) (fun _ _ _ h => h) (Or.inl ⟨by rfl, ?_⟩) ?_ ?_
        rotate_left; (intro w'; go_simp; with_reducible rfl); rotate_left; (simp only [Act.put, zA, zZ, zS, i64_w, i32_w]; rfl)
        refine take_ (i := 3) (N := some 8) (v := ?_) (a' := ?_) (zF 40 15) rfl rfl (take_ofW HT_.out HW_.out (by kernel_rfl)) (fun _ _ _ h => h) (Or.inl ⟨by rfl, ?_⟩) hHeld ?_ ?_
        rotate_left; (rintro w' ⟨s0, s1⟩; go_simp; with_reducible rfl); rotate_left; (simp only [Act.put, zA, zZ, zS, i64_w, i32_w]; rfl)
        refine pure_ (i := 4) (N := some 9) (v := ?_) (a' := ?_) (zF 40 31) rfl rfl (any_of HT_.out (by kernel_rfl)) (fun _ _ _ h => h) (Or.inl ⟨by rfl, ?_⟩) ?_ ?_
        rotate_left; (intro w'; go_simp; with_reducible rfl); rotate_left; (simp only [Act.put, zA, zZ, zS, i64_w, i32_w]; rfl)
        refine pure_ (i := 5) (N := some 10) (v := ?_) (a' := ?_) (zF 40 63) rfl rfl (any_of HT_.out (by kernel_rfl)) (fun _ _ _ h => h) (Or.inl ⟨by rfl, ?_⟩) ?_ ?_
        rotate_left; (intro w'; go_simp; with_reducible rfl); rotate_left; (simp only [Act.put, zA, zZ, zS, i64_w, i32_w]; rfl)
        refine pure_ (i := 6) (N := some 11) (v := ?_) (a' := ?_) (zF 40 127) rfl rfl (any_of HT_.out (by kernel_rfl)) (fun _ _ _ h => h) (Or.inl ⟨by rfl, ?_⟩) ?_ ?_
        rotate_left; (intro w'; go_simp; with_reducible rfl); rotate_left; (simp only [Act.put, zA, zZ, zS, i64_w, i32_w]; rfl)
        refine pure_ (i := 7) (N := some 12) (v := ?_) (a' := ?_) (zF 40 255) rfl rfl (any_of HT_.out (by kernel_rfl)) (fun _ _ _ h => h) (Or.inl ⟨by rfl, ?_⟩) ?_ ?_
        rotate_left; (intro w'; go_simp; with_reducible rfl); rotate_left; (simp only [Act.put, zA, zZ, zS, i64_w, i32_w]; rfl)
        refine pure_ (i := 8) (N := some 13) (v := ?_) (a' := ?_) (zF 40 511) rfl rfl (any_of HT_.out (by kernel_rfl)) (fun _ _ _ h => h) (Or.inl ⟨by rfl, ?_⟩) ?_ ?_
        rotate_left; (intro w'; go_simp; with_reducible rfl); rotate_left; (simp only [Act.put, zA, zZ, zS, i64_w, i32_w]; rfl)
        refine pure_ (i := 10) (N := some 15) (v := ?_) (a' := ?_) (zF 40 1535) rfl rfl (any_of HT_.out (by kernel_rfl)) (fun _ _ _ h => h) (Or.inl ⟨by rfl, ?_⟩) ?_ ?_
        rotate_left; (intro w'; go_simp; with_reducible rfl); rotate_left; (simp only [Act.put, zA, zZ, zS, i64_w, i32_w]; rfl)
        refine pure_ (i := 11) (N := some 16) (v := ?_) (a' := ?_) (zF 40 3583) rfl rfl (any_of HT_.out (by kernel_rfl)) (fun _ _ _ h => h) (Or.inl ⟨by rfl, ?_⟩) ?_ ?_
        rotate_left; (intro w'; go_simp; with_reducible rfl); rotate_left; (simp only [Act.put, zA, zZ, zS, i64_w, i32_w]; rfl)
        refine pure_ (i := 12) (N := some 17) (v := ?_) (a' := ?_) (zF 40 7679) rfl rfl (any_of HT_.out (by kernel_rfl)) (fun _ _ _ h => h) (Or.inl ⟨by rfl, ?_⟩) ?_ ?_
        rotate_left; (intro w'; go_simp; with_reducible rfl); rotate_left; (simp only [Act.put, zA, zZ, zS, i64_w, i32_w]; rfl)
        refine take_ (i := 9) (N := some 14) (v := ?_) (a' := ?_) (zF 40 8191) rfl rfl (take_ofW HT_.out HW_.out (by kernel_rfl)) (fun _ _ _ h => h) (Or.inl ⟨by rfl, ?_⟩) hHeld ?_ ?_
        rotate_left; (rintro w' ⟨s0, s1⟩; go_simp; with_reducible rfl); rotate_left; (simp only [Act.put, zA, zZ, zS, i64_w, i32_w]; rfl)
        refine take_ (i := 13) (N := some 18) (v := ?_) (a' := ?_) (zF 40 16383) rfl rfl (take_ofW HT_.out HW_.out (by kernel_rfl)) (fun _ _ _ h => h) (Or.inl ⟨by rfl, ?_⟩) hHeld ?_ ?_
        rotate_left; (rintro w' ⟨s0, s1⟩; go_simp; with_reducible rfl); rotate_left; (simp only [Act.put, zA, zZ, zS, i64_w, i32_w]; rfl)
        refine pure_ (i := 14) (N := some 19) (v := ?_) (a' := ?_) (zF 40 32767) rfl rfl (any_of HT_.out (by kernel_rfl)) (fun _ _ _ h => h) (Or.inl ⟨by rfl, ?_⟩) ?_ ?_
        rotate_left; (intro w'; go_simp; with_reducible rfl); rotate_left; (simp only [Act.put, zA, zZ, zS, i64_w, i32_w]; rfl)
        refine pure_ (i := 15) (N := some 20) (v := ?_) (a' := ?_) (zF 40 65535) rfl rfl (any_of HT_.out (by kernel_rfl)) (fun _ _ _ h => h) (Or.inl ⟨by rfl, ?_⟩) ?_ ?_
        rotate_left; (intro w'; go_simp; with_reducible rfl); rotate_left; (simp only [Act.put, zA, zZ, zS, i64_w, i32_w]; rfl)
        refine pure_ (i := 16) (N := some 21) (v := ?_) (a' := ?_) (zF 40 131071) rfl rfl (any_of HT_.out (by kernel_rfl)) (fun _ _ _ h => h) (Or.inl ⟨by rfl, ?_⟩) ?_ ?_
        rotate_left; (intro w'; go_simp; with_reducible rfl); rotate_left; (simp only [Act.put, zA, zZ, zS, i64_w, i32_w]; rfl)
        refine pure_ (i := 17) (N := some 22) (v := ?_) (a' := ?_) (zF 40 262143) rfl rfl (any_of HT_.out (by kernel_rfl)) (fun _ _ _ h => h) (Or.inl ⟨by rfl, ?_⟩) ?_ ?_
        rotate_left; (intro w'; go_simp; with_reducible rfl); rotate_left; (simp only [Act.put, zA, zZ, zS, i64_w, i32_w]; rfl)
        refine pure_ (i := 18) (N := some 23) (v := ?_) (a' := ?_) (zF 40 524287) rfl rfl (any_of HT_.out (by kernel_rfl)) (fun _ _ _ h => h) (Or.inl ⟨by rfl, ?_⟩) ?_ ?_
        rotate_left; (intro w'; go_simp; with_reducible rfl); rotate_left; (simp only [Act.put, zA, zZ, zS, i64_w, i32_w]; rfl)
        refine pure_ (i := 19) (N := some 24) (v := ?_) (a' := ?_) (zF 40 1048575) rfl rfl (any_of HT_.out (by kernel_rfl)) (fun _ _ _ h => h) (Or.inl ⟨by rfl, ?_⟩) ?_ ?_
        rotate_left; (intro w'; go_simp; with_reducible rfl); rotate_left; (simp only [Act.put, zA, zZ, zS, i64_w, i32_w]; rfl)
        refine pure_ (i := 20) (N := some 25) (v := ?_) (a' := ?_) (zF 40 2097151) rfl rfl (any_of HT_.out (by kernel_rfl)) (fun _ _ _ h => h) (Or.inl ⟨by rfl, ?_⟩) ?_ ?_
        rotate_left; (intro w'; go_simp; with_reducible rfl); rotate_left; (simp only [Act.put, zA, zZ, zS, i64_w, i32_w]; rfl)
        refine take_ (i := 21) (N := some 26) (v := ?_) (a' := ?_) (zF 40 4194303) rfl rfl (take_ofW HT_.out HW_.out (by kernel_rfl)) (fun _ _ _ h => h) (Or.inl ⟨by rfl, ?_⟩) hHeld ?_ ?_
        rotate_left; (rintro w' ⟨s0, s1⟩; go_simp; with_reducible rfl); rotate_left; (simp only [Act.put, zA, zZ, zS, i64_w, i32_w]; rfl)
        refine pure_ (i := 22) (N := some 27) (v := ?_) (a' := ?_) (zF 40 8388607) rfl rfl (any_of HT_.out (by kernel_rfl)) (fun _ _ _ h => h) (Or.inl ⟨by rfl, ?_⟩) ?_ ?_
        rotate_left; (intro w'; go_simp; with_reducible rfl); rotate_left; (simp only [Act.put, zA, zZ, zS, i64_w, i32_w]; rfl)
        refine pure_ (i := 23) (N := some 28) (v := ?_) (a' := ?_) (zF 40 16777215) rfl rfl (any_of HT_.out (by kernel_rfl)) (fun _ _ _ h => h) (Or.inl ⟨by rfl, ?_⟩) ?_ ?_
        rotate_left; (intro w'; go_simp; with_reducible rfl); rotate_left; (simp only [Act.put, zA, zZ, zS, i64_w, i32_w]; rfl)
        refine pure_ (i := 24) (N := some 29) (v := undef) (a' := ?_) (zF 40 33554431) rfl rfl (any_of HT_.out (by kernel_rfl)) (fun _ _ _ h => h) (Or.inr ⟨by rfl, rfl⟩) ?_ ?_
        rotate_left
        · simp only [Act.put, zA, zZ, zS, i64_w, i32_w]
          rfl
        refine pure_ (i := 25) (N := some 30) (v := undef) (a' := ?_) (zF 40 67108863) rfl rfl (any_of HT_.out (by kernel_rfl)) (fun _ _ _ h => h) (Or.inr ⟨by rfl, rfl⟩) ?_ ?_
        rotate_left
        · simp only [Act.put, zA, zZ, zS, i64_w, i32_w]
          rfl
        refine pure_ (i := 26) (N := some 31) (v := undef) (a' := ?_) (zF 40 134217727) rfl rfl (any_of HT_.out (by kernel_rfl)) (fun _ _ _ h => h) (Or.inr ⟨by rfl, rfl⟩) ?_ ?_
        rotate_left
        · simp only [Act.put, zA, zZ, zS, i64_w, i32_w]
          rfl
        refine pure_ (i := 27) (N := some 32) (v := undef) (a' := ?_) (zF 40 268435455) rfl rfl (any_of HT_.out (by kernel_rfl)) (fun _ _ _ h => h) (Or.inr ⟨by rfl, rfl⟩) ?_ ?_
        rotate_left
        · simp only [Act.put, zA, zZ, zS, i64_w, i32_w]
          rfl
        refine pure_ (i := 28) (N := some 33) (v := undef) (a' := ?_) (zF 40 536870911) rfl rfl (any_of HT_.out (by kernel_rfl)) (fun _ _ _ h => h) (Or.inr ⟨by rfl, rfl⟩) ?_ ?_
        rotate_left
        · simp only [Act.put, zA, zZ, zS, i64_w, i32_w]
          rfl
        refine pure_ (i := 29) (N := some 34) (v := ?_) (a' := ?_) (zF 40 1073741823) rfl rfl (any_of HT_.out (by kernel_rfl)) (fun _ _ _ h => h) (Or.inl ⟨by rfl, ?_⟩) ?_ ?_
        rotate_left; (intro w'; go_simp; with_reducible rfl); rotate_left; (simp only [Act.put, zA, zZ, zS, i64_w, i32_w]; rfl)
        refine pure_ (i := 30) (N := some 35) (v := ?_) (a' := ?_) (zF 40 2147483647) rfl rfl (any_of HT_.out (by kernel_rfl)) (fun _ _ _ h => h) (Or.inl ⟨by rfl, ?_⟩) ?_ ?_
        rotate_left; (intro w'; go_simp; with_reducible rfl); rotate_left; (simp only [Act.put, zA, zZ, zS, i64_w, i32_w]; rfl)
        refine pure_ (i := 31) (N := some 36) (v := undef) (a' := ?_) (zF 40 4294967295) rfl rfl (any_of HT_.out (by kernel_rfl)) (fun _ _ _ h => h) (Or.inr ⟨by rfl, rfl⟩) ?_ ?_
        rotate_left
        · simp only [Act.put, zA, zZ, zS, i64_w, i32_w]
          rfl
        refine pure_ (i := 32) (N := some 37) (v := undef) (a' := ?_) (zF 40 8589934591) rfl rfl (any_of HT_.out (by kernel_rfl)) (fun _ _ _ h => h) (Or.inr ⟨by rfl, rfl⟩) ?_ ?_
        rotate_left
        · simp only [Act.put, zA, zZ, zS, i64_w, i32_w]
          rfl
        refine pure_ (i := 33) (N := some 38) (v := undef) (a' := ?_) (zF 40 17179869183) rfl rfl (any_of HT_.out (by kernel_rfl)) (fun _ _ _ h => h) (Or.inr ⟨by rfl, rfl⟩) ?_ ?_
        rotate_left
        · simp only [Act.put, zA, zZ, zS, i64_w, i32_w]
          rfl
        refine pure_ (i := 34) (N := some 39) (v := undef) (a' := ?_) (zF 40 34359738367) rfl rfl (any_of HT_.out (by kernel_rfl)) (fun _ _ _ h => h) (Or.inr ⟨by rfl, rfl⟩) ?_ ?_
        rotate_left
        · simp only [Act.put, zA, zZ, zS, i64_w, i32_w]
          rfl
        refine pure_ (i := 35) (N := some 40) (v := undef) (a' := ?_) (zF 40 68719476735) rfl rfl (any_of HT_.out (by kernel_rfl)) (fun _ _ _ h => h) (Or.inr ⟨by rfl, rfl⟩) ?_ ?_
        rotate_left
        · simp only [Act.put, zA, zZ, zS, i64_w, i32_w]
          rfl
        refine pure_ (i := 36) (N := some 41) (v := undef) (a' := ?_) (zF 40 137438953471) rfl rfl (any_of HT_.out (by kernel_rfl)) (fun _ _ _ h => h) (Or.inr ⟨by rfl, rfl⟩) ?_ ?_
        rotate_left
        · simp only [Act.put, zA, zZ, zS, i64_w, i32_w]
          rfl
        refine pure_ (i := 37) (N := some 42) (v := undef) (a' := ?_) (zF 40 274877906943) rfl rfl (any_of HT_.out (by kernel_rfl)) (fun _ _ _ h => h) (Or.inr ⟨by rfl, rfl⟩) ?_ ?_
        rotate_left
        · simp only [Act.put, zA, zZ, zS, i64_w, i32_w]
          rfl
        refine pure_ (i := 38) (N := some 43) (v := ?_) (a' := ?_) (zF 40 549755813887) rfl rfl (any_of HT_.out (by kernel_rfl)) (fun _ _ _ h => h) (Or.inl ⟨by rfl, ?_⟩) ?_ ?_
        rotate_left; (intro w'; go_simp; with_reducible rfl); rotate_left; (simp only [Act.put, zA, zZ, zS, i64_w, i32_w]; rfl)
        refine pure_ (i := 39) (N := some 44) (v := ?_) (a' := ?_) (zF 40 1099511627775) rfl rfl (any_of HT_.out (by kernel_rfl)) (fun _ _ _ h => h) (Or.inl ⟨by rfl, ?_⟩) ?_ ?_
        rotate_left; (intro w'; go_simp; with_reducible rfl); rotate_left; (simp only [Act.put, zA, zZ, zS, i64_w, i32_w]; rfl)
        refine done_ (done_of HT_.out (by kernel_rfl)) ?_
        clear hHeld
        go_wp2
        go_meet
        case rel => exact ⟨by rw [HT2.out], ⟨H2d.out⟩⟩
    · obtain rfl : cnt = 0 := by omega
      have hn0 := HN0.out
      have tn0 : decide ((0 : Int) < (n : Int)) = true := decide_eq_true (by omega)
      have q1 : (0 : Int) < (n : Int) := by omega
      obtain ⟨x, hx⟩ : ∃ x, x = ps.getD 0 0 := ⟨_, rfl⟩
      have HX := Aside0.mk hx
      by_cases hxm : x = 2147483647
      · have tx : (x != 2147483647) = false := by simpa using hxm
        have htq : tq = false := by rw [HTQ.out]; unfold sdq; exact decide_eq_false (fun h => h.elim (fun h => absurd h.1 (Nat.lt_irrefl 0)) (fun h => h.2.2 (hx.symm.trans hxm)))
        have HT2 := Aside0.mk htq
        clear htq hx hxm
        refine start_ (n := 40) (S := (fun w' => w'.cell? ⟨gm, 0, none⟩ = some (.int .i64 (n : Int)) ∧ w'.cell? ⟨gm, 3, none⟩ = some (.int .i64 0) ∧ w'.cell? ⟨gm, 5, none⟩ = some (.slice (some ⟨gq, 0, none⟩) n n) ∧ w'.cell? ⟨gq, 0, none⟩ = some (.int .i64 x))) (ds := []) #[false, false, false, false, false, false, false, false, false, false, false, false, false, false, false, false, false, false, false, false, false, false, false, false, false, false, false, false, false, false, false, false, false, false, false, false, false, false, false, false] (by kernel_rfl) rfl rfl ⟨H1.out.c0, H1.out.c3, H1.out.c5, H1.out.cpx HN0.out HX.out⟩ (fun hHeld => ?_)
        refine with_tabW d0_tab d0_bits (fun HT_ HW_ => ?_)
        have H2d := Aside0.mk (show MV B w0 w1.drew gm gq n D T ⟨ps, da, pt, 0, cmd, st⟩ vd vp ve from H1.out.drew)
        clear H1
        generalize w1.drew = w2d at H2d hHeld ⊢
        refine pure_ (i := 0) (N := some 5) (v := ?_) (a' := ?_) (zF 40 1) rfl rfl (any_of HT_.out (by kernel_rfl)) (fun _ _ _ h => h) (Or.inl ⟨by rfl, ?_⟩) ?_ ?_
        rotate_left; (intro w'; go_simp; with_reducible rfl); rotate_left; (simp only [Act.put, zA, zZ, zS, i64_w, i32_w]; rfl)
        refine pure_ (i := 1) (N := some 6) (v := ?_) (a' := ?_) (zF 40 3) rfl rfl (any_of HT_.out (by kernel_rfl)) (fun _ _ _ h => h) (Or.inl ⟨by rfl, ?_⟩) ?_ ?_
        rotate_left; (intro w'; go_simp; with_reducible rfl); rotate_left; (simp only [Act.put, zA, zZ, zS, i64_w, i32_w]; rfl)
        refine pure_ (i := 2) (N := some 7) (v := ?_) (a' := ?_) (zF 40 7) rfl rfl (any_of HT_.out (by kernel_rfl)) (fun _ _ _ h => h) (Or.inl ⟨by rfl, ?_⟩) ?_ ?_
        rotate_left; (intro w'; go_simp; with_reducible rfl); rotate_left; (simp only [Act.put, zA, zZ, zS, i64_w, i32_w]; rfl)
        refine take_ (i := 3) (N := some 8) (v := ?_) (a' := ?_) (zF 40 15) rfl rfl (take_ofW HT_.out HW_.out (by kernel_rfl)) (fun _ _ _ h => h) (Or.inl ⟨by rfl, ?_⟩) hHeld ?_ ?_
        rotate_left; (rintro w' ⟨s0, s1, s2, s3⟩; go_simp; with_reducible rfl); rotate_left; (simp only [Act.put, zA, zZ, zS, i64_w, i32_w]; rfl)
        refine pure_ (i := 4) (N := some 9) (v := ?_) (a' := ?_) (zF 40 31) rfl rfl (any_of HT_.out (by kernel_rfl)) (fun _ _ _ h => h) (Or.inl ⟨by rfl, ?_⟩) ?_ ?_
        rotate_left; (intro w'; go_simp; with_reducible rfl); rotate_left; (simp only [Act.put, zA, zZ, zS, i64_w, i32_w]; rfl)
        refine pure_ (i := 5) (N := some 10) (v := ?_) (a' := ?_) (zF 40 63) rfl rfl (any_of HT_.out (by kernel_rfl)) (fun _ _ _ h => h) (Or.inl ⟨by rfl, ?_⟩) ?_ ?_
        rotate_left; (intro w'; go_simp; with_reducible rfl); rotate_left; (simp only [Act.put, zA, zZ, zS, i64_w, i32_w]; rfl)
        refine pure_ (i := 6) (N := some 11) (v := undef) (a' := ?_) (zF 40 127) rfl rfl (any_of HT_.out (by kernel_rfl)) (fun _ _ _ h => h) (Or.inr ⟨by rfl, rfl⟩) ?_ ?_
        rotate_left
        · simp only [Act.put, zA, zZ, zS, i64_w, i32_w]
          rfl
        refine pure_ (i := 7) (N := some 12) (v := undef) (a' := ?_) (zF 40 255) rfl rfl (any_of HT_.out (by kernel_rfl)) (fun _ _ _ h => h) (Or.inr ⟨by rfl, rfl⟩) ?_ ?_
        rotate_left
        · simp only [Act.put, zA, zZ, zS, i64_w, i32_w]
          rfl
        refine pure_ (i := 8) (N := some 13) (v := undef) (a' := ?_) (zF 40 511) rfl rfl (any_of HT_.out (by kernel_rfl)) (fun _ _ _ h => h) (Or.inr ⟨by rfl, rfl⟩) ?_ ?_
        rotate_left
        · simp only [Act.put, zA, zZ, zS, i64_w, i32_w]
          rfl
        refine pure_ (i := 9) (N := some 14) (v := undef) (a' := ?_) (zF 40 1023) rfl rfl (any_of HT_.out (by kernel_rfl)) (fun _ _ _ h => h) (Or.inr ⟨by rfl, rfl⟩) ?_ ?_
        rotate_left
        · simp only [Act.put, zA, zZ, zS, i64_w, i32_w]
          rfl
        refine pure_ (i := 10) (N := some 15) (v := undef) (a' := ?_) (zF 40 2047) rfl rfl (any_of HT_.out (by kernel_rfl)) (fun _ _ _ h => h) (Or.inr ⟨by rfl, rfl⟩) ?_ ?_
        rotate_left
        · simp only [Act.put, zA, zZ, zS, i64_w, i32_w]
          rfl
        refine pure_ (i := 11) (N := some 16) (v := undef) (a' := ?_) (zF 40 4095) rfl rfl (any_of HT_.out (by kernel_rfl)) (fun _ _ _ h => h) (Or.inr ⟨by rfl, rfl⟩) ?_ ?_
        rotate_left
        · simp only [Act.put, zA, zZ, zS, i64_w, i32_w]
          rfl
        refine pure_ (i := 12) (N := some 17) (v := undef) (a' := ?_) (zF 40 8191) rfl rfl (any_of HT_.out (by kernel_rfl)) (fun _ _ _ h => h) (Or.inr ⟨by rfl, rfl⟩) ?_ ?_
        rotate_left
        · simp only [Act.put, zA, zZ, zS, i64_w, i32_w]
          rfl
        refine pure_ (i := 13) (N := some 18) (v := undef) (a' := ?_) (zF 40 16383) rfl rfl (any_of HT_.out (by kernel_rfl)) (fun _ _ _ h => h) (Or.inr ⟨by rfl, rfl⟩) ?_ ?_
        rotate_left
        · simp only [Act.put, zA, zZ, zS, i64_w, i32_w]
          rfl
        refine pure_ (i := 14) (N := some 19) (v := undef) (a' := ?_) (zF 40 32767) rfl rfl (any_of HT_.out (by kernel_rfl)) (fun _ _ _ h => h) (Or.inr ⟨by rfl, rfl⟩) ?_ ?_
        rotate_left
        · simp only [Act.put, zA, zZ, zS, i64_w, i32_w]
          rfl
        refine pure_ (i := 15) (N := some 20) (v := undef) (a' := ?_) (zF 40 65535) rfl rfl (any_of HT_.out (by kernel_rfl)) (fun _ _ _ h => h) (Or.inr ⟨by rfl, rfl⟩) ?_ ?_
        rotate_left
        · simp only [Act.put, zA, zZ, zS, i64_w, i32_w]
          rfl
        refine pure_ (i := 16) (N := some 21) (v := ?_) (a' := ?_) (zF 40 131071) rfl rfl (any_of HT_.out (by kernel_rfl)) (fun _ _ _ h => h) (Or.inl ⟨by rfl, ?_⟩) ?_ ?_
        rotate_left; (intro w'; go_simp; with_reducible rfl); rotate_left; (simp only [Act.put, zA, zZ, zS, i64_w, i32_w]; rfl)
        refine pure_ (i := 17) (N := some 22) (v := ?_) (a' := ?_) (zF 40 262143) rfl rfl (any_of HT_.out (by kernel_rfl)) (fun _ _ _ h => h) (Or.inl ⟨by rfl, ?_⟩) ?_ ?_
        rotate_left; (intro w'; go_simp; with_reducible rfl); rotate_left; (simp only [Act.put, zA, zZ, zS, i64_w, i32_w]; rfl)
        refine pure_ (i := 18) (N := some 23) (v := ?_) (a' := ?_) (zF 40 524287) rfl rfl (any_of HT_.out (by kernel_rfl)) (fun _ _ _ h => h) (Or.inl ⟨by rfl, ?_⟩) ?_ ?_
        rotate_left; (intro w'; go_simp; with_reducible rfl); rotate_left; (simp only [Act.put, zA, zZ, zS, i64_w, i32_w]; rfl)
        refine pure_ (i := 19) (N := some 24) (v := ?_) (a' := ?_) (zF 40 1048575) rfl rfl (any_of HT_.out (by kernel_rfl)) (fun _ _ _ h => h) (Or.inl ⟨by rfl, ?_⟩) ?_ ?_
        rotate_left; (intro w'; go_simp; with_reducible rfl); rotate_left; (simp only [Act.put, zA, zZ, zS, i64_w, i32_w]; rfl)
        refine pure_ (i := 20) (N := some 25) (v := ?_) (a' := ?_) (zF 40 2097151) rfl rfl (any_of HT_.out (by kernel_rfl)) (fun _ _ _ h => h) (Or.inl ⟨by rfl, ?_⟩) ?_ ?_
        rotate_left; (intro w'; go_simp; with_reducible rfl); rotate_left; (simp only [Act.put, zA, zZ, zS, i64_w, i32_w]; rfl)
        refine take_ (i := 21) (N := some 26) (v := ?_) (a' := ?_) (zF 40 4194303) rfl rfl (take_ofW HT_.out HW_.out (by kernel_rfl)) (fun _ _ _ h => h) (Or.inl ⟨by rfl, ?_⟩) hHeld ?_ ?_
        rotate_left; (rintro w' ⟨s0, s1, s2, s3⟩; go_simp; with_reducible rfl); rotate_left; (simp only [Act.put, zA, zZ, zS, i64_w, i32_w]; rfl)
        refine pure_ (i := 22) (N := some 27) (v := ?_) (a' := ?_) (zF 40 8388607) rfl rfl (any_of HT_.out (by kernel_rfl)) (fun _ _ _ h => h) (Or.inl ⟨by rfl, ?_⟩) ?_ ?_
        rotate_left; (intro w'; go_simp; with_reducible rfl); rotate_left; (simp only [Act.put, zA, zZ, zS, i64_w, i32_w]; rfl)
        refine pure_ (i := 23) (N := some 28) (v := ?_) (a' := ?_) (zF 40 16777215) rfl rfl (any_of HT_.out (by kernel_rfl)) (fun _ _ _ h => h) (Or.inl ⟨by rfl, ?_⟩) ?_ ?_
        rotate_left; (intro w'; go_simp; with_reducible rfl); rotate_left; (simp only [Act.put, zA, zZ, zS, i64_w, i32_w]; rfl)
        refine pure_ (i := 24) (N := some 29) (v := ?_) (a' := ?_) (zF 40 33554431) rfl rfl (any_of HT_.out (by kernel_rfl)) (fun _ _ _ h => h) (Or.inl ⟨by rfl, ?_⟩) ?_ ?_
        rotate_left; (intro w'; go_simp; with_reducible rfl); rotate_left; (simp only [Act.put, zA, zZ, zS, i64_w, i32_w]; rfl)
        refine pure_ (i := 25) (N := some 30) (v := ?_) (a' := ?_) (zF 40 67108863) rfl rfl (any_of HT_.out (by kernel_rfl)) (fun _ _ _ h => h) (Or.inl ⟨by rfl, ?_⟩) ?_ ?_
        rotate_left; (intro w'; go_simp; with_reducible rfl); rotate_left; (simp only [Act.put, zA, zZ, zS, i64_w, i32_w]; rfl)
        refine pure_ (i := 26) (N := some 31) (v := ?_) (a' := ?_) (zF 40 134217727) rfl rfl (any_of HT_.out (by kernel_rfl)) (fun _ _ _ h => h) (Or.inl ⟨by rfl, ?_⟩) ?_ ?_
        rotate_left; (intro w'; go_simp; with_reducible rfl); rotate_left; (simp only [Act.put, zA, zZ, zS, i64_w, i32_w]; rfl)
        refine take_ (i := 27) (N := some 32) (v := ?_) (a' := ?_) (zF 40 268435455) rfl rfl (take_ofW HT_.out HW_.out (by kernel_rfl)) (fun _ _ _ h => h) (Or.inl ⟨by rfl, ?_⟩) hHeld ?_ ?_
        rotate_left; (rintro w' ⟨s0, s1, s2, s3⟩; go_simp; with_reducible rfl); rotate_left; (simp only [Act.put, zA, zZ, zS, i64_w, i32_w]; rfl)
        refine pure_ (i := 28) (N := some 33) (v := ?_) (a' := ?_) (zF 40 536870911) rfl rfl (any_of HT_.out (by kernel_rfl)) (fun _ _ _ h => h) (Or.inl ⟨by rfl, ?_⟩) ?_ ?_
        rotate_left; (intro w'; go_simp; with_reducible rfl); rotate_left; (simp only [Act.put, zA, zZ, zS, i64_w, i32_w]; rfl)
        refine pure_ (i := 29) (N := some 34) (v := ?_) (a' := ?_) (zF 40 1073741823) rfl rfl (any_of HT_.out (by kernel_rfl)) (fun _ _ _ h => h) (Or.inl ⟨by rfl, ?_⟩) ?_ ?_
        rotate_left; (intro w'; go_simp; with_reducible rfl); rotate_left; (simp only [Act.put, zA, zZ, zS, i64_w, i32_w]; rfl)
        refine pure_ (i := 30) (N := some 35) (v := ?_) (a' := ?_) (zF 40 2147483647) rfl rfl (any_of HT_.out (by kernel_rfl)) (fun _ _ _ h => h) (Or.inl ⟨by rfl, ?_⟩) ?_ ?_
        rotate_left; (intro w'; go_simp; with_reducible rfl); rotate_left; (simp only [Act.put, zA, zZ, zS, i64_w, i32_w]; rfl)
        refine pure_ (i := 31) (N := some 36) (v := ?_) (a' := ?_) (zF 40 4294967295) rfl rfl (any_of HT_.out (by kernel_rfl)) (fun _ _ _ h => h) (Or.inl ⟨by rfl, ?_⟩) ?_ ?_
        rotate_left; (intro w'; go_simp; with_reducible rfl); rotate_left; (simp only [Act.put, zA, zZ, zS, i64_w, i32_w]; rfl)
        refine pure_ (i := 32) (N := some 37) (v := ?_) (a' := ?_) (zF 40 8589934591) rfl rfl (any_of HT_.out (by kernel_rfl)) (fun _ _ _ h => h) (Or.inl ⟨by rfl, ?_⟩) ?_ ?_
        rotate_left; (intro w'; go_simp; with_reducible rfl); rotate_left; (simp only [Act.put, zA, zZ, zS, i64_w, i32_w]; rfl)
        refine pure_ (i := 33) (N := some 38) (v := ?_) (a' := ?_) (zF 40 17179869183) rfl rfl (any_of HT_.out (by kernel_rfl)) (fun _ _ _ h => h) (Or.inl ⟨by rfl, ?_⟩) ?_ ?_
        rotate_left; (intro w'; go_simp; with_reducible rfl); rotate_left; (simp only [Act.put, zA, zZ, zS, i64_w, i32_w]; rfl)
        refine take_ (i := 34) (N := some 39) (v := ?_) (a' := ?_) (zF 40 34359738367) rfl rfl (take_ofW HT_.out HW_.out (by kernel_rfl)) (fun _ _ _ h => h) (Or.inl ⟨by rfl, ?_⟩) hHeld ?_ ?_
        rotate_left; (rintro w' ⟨s0, s1, s2, s3⟩; go_simp; with_reducible rfl); rotate_left; (simp only [Act.put, zA, zZ, zS, i64_w, i32_w]; rfl)
        refine pure_ (i := 35) (N := some 40) (v := ?_) (a' := ?_) (zF 40 68719476735) rfl rfl (any_of HT_.out (by kernel_rfl)) (fun _ _ _ h => h) (Or.inl ⟨by rfl, ?_⟩) ?_ ?_
        rotate_left; (intro w'; go_simp; with_reducible rfl); rotate_left; (simp only [Act.put, zA, zZ, zS, i64_w, i32_w]; rfl)
        refine take_ (i := 36) (N := some 41) (v := ?_) (a' := ?_) (zF 40 137438953471) rfl rfl (take_ofW HT_.out HW_.out (by kernel_rfl)) (fun _ _ _ h => h) (Or.inl ⟨by rfl, ?_⟩) hHeld ?_ ?_
        rotate_left; (rintro w' ⟨s0, s1, s2, s3⟩; go_simp; with_reducible rfl); rotate_left; (simp only [Act.put, zA, zZ, zS, i64_w, i32_w]; rfl)
        refine pure_ (i := 37) (N := some 42) (v := ?_) (a' := ?_) (zF 40 274877906943) rfl rfl (any_of HT_.out (by kernel_rfl)) (fun _ _ _ h => h) (Or.inl ⟨by rfl, ?_⟩) ?_ ?_
        rotate_left; (intro w'; go_simp; with_reducible rfl); rotate_left; (simp only [Act.put, zA, zZ, zS, i64_w, i32_w]; rfl)
        refine pure_ (i := 38) (N := some 43) (v := ?_) (a' := ?_) (zF 40 549755813887) rfl rfl (any_of HT_.out (by kernel_rfl)) (fun _ _ _ h => h) (Or.inl ⟨by rfl, ?_⟩) ?_ ?_
        rotate_left; (intro w'; go_simp; with_reducible rfl); rotate_left; (simp only [Act.put, zA, zZ, zS, i64_w, i32_w]; rfl)
        refine pure_ (i := 39) (N := some 44) (v := ?_) (a' := ?_) (zF 40 1099511627775) rfl rfl (any_of HT_.out (by kernel_rfl)) (fun _ _ _ h => h) (Or.inl ⟨by rfl, ?_⟩) ?_ ?_
        rotate_left; (intro w'; go_simp; with_reducible rfl); rotate_left; (simp only [Act.put, zA, zZ, zS, i64_w, i32_w]; rfl)
        refine done_ (done_of HT_.out (by kernel_rfl)) ?_
        clear hHeld
        go_wp2
        go_meet
        case rel => exact ⟨by rw [HT2.out], ⟨H2d.out⟩⟩
      · have tx : (x != 2147483647) = true := by simpa using hxm
        have htq : tq = true := by rw [HTQ.out]; unfold sdq; exact decide_eq_true (.inr ⟨rfl, hn0, by rw [← hx]; exact hxm⟩)
        have HT2 := Aside0.mk htq
        clear htq hx hxm
        refine start_ (n := 40) (S := (fun w' => w'.cell? ⟨gm, 0, none⟩ = some (.int .i64 (n : Int)) ∧ w'.cell? ⟨gm, 3, none⟩ = some (.int .i64 0) ∧ w'.cell? ⟨gm, 5, none⟩ = some (.slice (some ⟨gq, 0, none⟩) n n) ∧ w'.cell? ⟨gq, 0, none⟩ = some (.int .i64 x))) (ds := []) #[false, false, false, false, false, false, false, false, false, false, false, false, false, false, false, false, false, false, false, false, false, false, false, false, false, false, false, false, false, false, false, false, false, false, false, false, false, false, false, false] (by kernel_rfl) rfl rfl ⟨H1.out.c0, H1.out.c3, H1.out.c5, H1.out.cpx HN0.out HX.out⟩ (fun hHeld => ?_)
        refine with_tabW d0_tab d0_bits (fun HT_ HW_ => ?_)
        have H2d := Aside0.mk (show MV B w0 w1.drew gm gq n D T ⟨ps, da, pt, 0, cmd, st⟩ vd vp ve from H1.out.drew)
        clear H1
        generalize w1.drew = w2d at H2d hHeld ⊢
        refine pure_ (i := 0) (N := some 5) (v := ?_) (a' := ?_) (zF 40 1) rfl rfl (any_of HT_.out (by kernel_rfl)) (fun _ _ _ h => h) (Or.inl ⟨by rfl, ?_⟩) ?_ ?_
        rotate_left; (intro w'; go_simp; with_reducible rfl); rotate_left; (simp only [Act.put, zA, zZ, zS, i64_w, i32_w]; rfl)
        refine pure_ (i := 1) (N := some 6) (v := ?_) (a' := ?_) (zF 40 3) rfl rfl (any_of HT_.out (by kernel_rfl)) (fun _ _ _ h => h) (Or.inl ⟨by rfl, ?_⟩) ?_ ?_
        rotate_left; (intro w'; go_simp; with_reducible rfl); rotate_left; (simp only [Act.put, zA, zZ, zS, i64_w, i32_w]; rfl)
        refine pure_ (i := 2) (N := some 7) (v := ?_) (a' := ?_) (zF 40 7) rfl rfl (any_of HT_.out (by kernel_rfl)) (fun _ _ _ h => h) (Or.inl ⟨by rfl, ?_⟩) ?_ ?_
        rotate_left; (intro w'; go_simp; with_reducible rfl); rotate_left; (simp only [Act.put, zA, zZ, zS, i64_w, i32_w]; rfl)
        refine take_ (i := 3) (N := some 8) (v := ?_) (a' := ?_) (zF 40 15) rfl rfl (take_ofW HT_.out HW_.out (by kernel_rfl)) (fun _ _ _ h => h) (Or.inl ⟨by rfl, ?_⟩) hHeld ?_ ?_
        rotate_left; (rintro w' ⟨s0, s1, s2, s3⟩; go_simp; with_reducible rfl); rotate_left; (simp only [Act.put, zA, zZ, zS, i64_w, i32_w]; rfl)
        refine pure_ (i := 4) (N := some 9) (v := ?_) (a' := ?_) (zF 40 31) rfl rfl (any_of HT_.out (by kernel_rfl)) (fun _ _ _ h => h) (Or.inl ⟨by rfl, ?_⟩) ?_ ?_
        rotate_left; (intro w'; go_simp; with_reducible rfl); rotate_left; (simp only [Act.put, zA, zZ, zS, i64_w, i32_w]; rfl)
        refine pure_ (i := 5) (N := some 10) (v := ?_) (a' := ?_) (zF 40 63) rfl rfl (any_of HT_.out (by kernel_rfl)) (fun _ _ _ h => h) (Or.inl ⟨by rfl, ?_⟩) ?_ ?_
        rotate_left; (intro w'; go_simp; with_reducible rfl); rotate_left; (simp only [Act.put, zA, zZ, zS, i64_w, i32_w]; rfl)
        refine pure_ (i := 6) (N := some 11) (v := undef) (a' := ?_) (zF 40 127) rfl rfl (any_of HT_.out (by kernel_rfl)) (fun _ _ _ h => h) (Or.inr ⟨by rfl, rfl⟩) ?_ ?_
        rotate_left
        · simp only [Act.put, zA, zZ, zS, i64_w, i32_w]
          rfl
        refine pure_ (i := 7) (N := some 12) (v := undef) (a' := ?_) (zF 40 255) rfl rfl (any_of HT_.out (by kernel_rfl)) (fun _ _ _ h => h) (Or.inr ⟨by rfl, rfl⟩) ?_ ?_
        rotate_left
        · simp only [Act.put, zA, zZ, zS, i64_w, i32_w]
          rfl
        refine pure_ (i := 8) (N := some 13) (v := undef) (a' := ?_) (zF 40 511) rfl rfl (any_of HT_.out (by kernel_rfl)) (fun _ _ _ h => h) (Or.inr ⟨by rfl, rfl⟩) ?_ ?_
        rotate_left
        · simp only [Act.put, zA, zZ, zS, i64_w, i32_w]
          rfl
        refine pure_ (i := 9) (N := some 14) (v := undef) (a' := ?_) (zF 40 1023) rfl rfl (any_of HT_.out (by kernel_rfl)) (fun _ _ _ h => h) (Or.inr ⟨by rfl, rfl⟩) ?_ ?_
        rotate_left
        · simp only [Act.put, zA, zZ, zS, i64_w, i32_w]
          rfl
        refine pure_ (i := 10) (N := some 15) (v := undef) (a' := ?_) (zF 40 2047) rfl rfl (any_of HT_.out (by kernel_rfl)) (fun _ _ _ h => h) (Or.inr ⟨by rfl, rfl⟩) ?_ ?_
        rotate_left
        · simp only [Act.put, zA, zZ, zS, i64_w, i32_w]
          rfl
        refine pure_ (i := 11) (N := some 16) (v := undef) (a' := ?_) (zF 40 4095) rfl rfl (any_of HT_.out (by kernel_rfl)) (fun _ _ _ h => h) (Or.inr ⟨by rfl, rfl⟩) ?_ ?_
        rotate_left
        · simp only [Act.put, zA, zZ, zS, i64_w, i32_w]
          rfl
        refine pure_ (i := 12) (N := some 17) (v := undef) (a' := ?_) (zF 40 8191) rfl rfl (any_of HT_.out (by kernel_rfl)) (fun _ _ _ h => h) (Or.inr ⟨by rfl, rfl⟩) ?_ ?_
        rotate_left
        · simp only [Act.put, zA, zZ, zS, i64_w, i32_w]
          rfl
        refine pure_ (i := 13) (N := some 18) (v := undef) (a' := ?_) (zF 40 16383) rfl rfl (any_of HT_.out (by kernel_rfl)) (fun _ _ _ h => h) (Or.inr ⟨by rfl, rfl⟩) ?_ ?_
        rotate_left
        · simp only [Act.put, zA, zZ, zS, i64_w, i32_w]
          rfl
        refine pure_ (i := 14) (N := some 19) (v := undef) (a' := ?_) (zF 40 32767) rfl rfl (any_of HT_.out (by kernel_rfl)) (fun _ _ _ h => h) (Or.inr ⟨by rfl, rfl⟩) ?_ ?_
        rotate_left
        · simp only [Act.put, zA, zZ, zS, i64_w, i32_w]
          rfl
        refine pure_ (i := 15) (N := some 20) (v := undef) (a' := ?_) (zF 40 65535) rfl rfl (any_of HT_.out (by kernel_rfl)) (fun _ _ _ h => h) (Or.inr ⟨by rfl, rfl⟩) ?_ ?_
        rotate_left
        · simp only [Act.put, zA, zZ, zS, i64_w, i32_w]
          rfl
        refine pure_ (i := 16) (N := some 21) (v := ?_) (a' := ?_) (zF 40 131071) rfl rfl (any_of HT_.out (by kernel_rfl)) (fun _ _ _ h => h) (Or.inl ⟨by rfl, ?_⟩) ?_ ?_
        rotate_left; (intro w'; go_simp; with_reducible rfl); rotate_left; (simp only [Act.put, zA, zZ, zS, i64_w, i32_w]; rfl)
        refine pure_ (i := 17) (N := some 22) (v := ?_) (a' := ?_) (zF 40 262143) rfl rfl (any_of HT_.out (by kernel_rfl)) (fun _ _ _ h => h) (Or.inl ⟨by rfl, ?_⟩) ?_ ?_
        rotate_left; (intro w'; go_simp; with_reducible rfl); rotate_left; (simp only [Act.put, zA, zZ, zS, i64_w, i32_w]; rfl)
        refine pure_ (i := 18) (N := some 23) (v := ?_) (a' := ?_) (zF 40 524287) rfl rfl (any_of HT_.out (by kernel_rfl)) (fun _ _ _ h => h) (Or.inl ⟨by rfl, ?_⟩) ?_ ?_
        rotate_left; (intro w'; go_simp; with_reducible rfl); rotate_left; (simp only [Act.put, zA, zZ, zS, i64_w, i32_w]; rfl)
        refine pure_ (i := 19) (N := some 24) (v := ?_) (a' := ?_) (zF 40 1048575) rfl rfl (any_of HT_.out (by kernel_rfl)) (fun _ _ _ h => h) (Or.inl ⟨by rfl, ?_⟩) ?_ ?_
        rotate_left; (intro w'; go_simp; with_reducible rfl); rotate_left; (simp only [Act.put, zA, zZ, zS, i64_w, i32_w]; rfl)
        refine pure_ (i := 20) (N := some 25) (v := ?_) (a' := ?_) (zF 40 2097151) rfl rfl (any_of HT_.out (by kernel_rfl)) (fun _ _ _ h => h) (Or.inl ⟨by rfl, ?_⟩) ?_ ?_
        rotate_left; (intro w'; go_simp; with_reducible rfl); rotate_left; (simp only [Act.put, zA, zZ, zS, i64_w, i32_w]; rfl)
        refine take_ (i := 21) (N := some 26) (v := ?_) (a' := ?_) (zF 40 4194303) rfl rfl (take_ofW HT_.out HW_.out (by kernel_rfl)) (fun _ _ _ h => h) (Or.inl ⟨by rfl, ?_⟩) hHeld ?_ ?_
        rotate_left; (rintro w' ⟨s0, s1, s2, s3⟩; go_simp; with_reducible rfl); rotate_left; (simp only [Act.put, zA, zZ, zS, i64_w, i32_w]; rfl)
        refine pure_ (i := 22) (N := some 27) (v := ?_) (a' := ?_) (zF 40 8388607) rfl rfl (any_of HT_.out (by kernel_rfl)) (fun _ _ _ h => h) (Or.inl ⟨by rfl, ?_⟩) ?_ ?_
        rotate_left; (intro w'; go_simp; with_reducible rfl); rotate_left; (simp only [Act.put, zA, zZ, zS, i64_w, i32_w]; rfl)
        refine pure_ (i := 23) (N := some 28) (v := ?_) (a' := ?_) (zF 40 16777215) rfl rfl (any_of HT_.out (by kernel_rfl)) (fun _ _ _ h => h) (Or.inl ⟨by rfl, ?_⟩) ?_ ?_
        rotate_left; (intro w'; go_simp; with_reducible rfl); rotate_left; (simp only [Act.put, zA, zZ, zS, i64_w, i32_w]; rfl)
        refine pure_ (i := 24) (N := some 29) (v := ?_) (a' := ?_) (zF 40 33554431) rfl rfl (any_of HT_.out (by kernel_rfl)) (fun _ _ _ h => h) (Or.inl ⟨by rfl, ?_⟩) ?_ ?_
        rotate_left; (intro w'; go_simp; with_reducible rfl); rotate_left; (simp only [Act.put, zA, zZ, zS, i64_w, i32_w]; rfl)
        refine pure_ (i := 25) (N := some 30) (v := ?_) (a' := ?_) (zF 40 67108863) rfl rfl (any_of HT_.out (by kernel_rfl)) (fun _ _ _ h => h) (Or.inl ⟨by rfl, ?_⟩) ?_ ?_
        rotate_left; (intro w'; go_simp; with_reducible rfl); rotate_left; (simp only [Act.put, zA, zZ, zS, i64_w, i32_w]; rfl)
        refine pure_ (i := 26) (N := some 31) (v := ?_) (a' := ?_) (zF 40 134217727) rfl rfl (any_of HT_.out (by kernel_rfl)) (fun _ _ _ h => h) (Or.inl ⟨by rfl, ?_⟩) ?_ ?_
        rotate_left; (intro w'; go_simp; with_reducible rfl); rotate_left; (simp only [Act.put, zA, zZ, zS, i64_w, i32_w]; rfl)
        refine take_ (i := 27) (N := some 32) (v := ?_) (a' := ?_) (zF 40 268435455) rfl rfl (take_ofW HT_.out HW_.out (by kernel_rfl)) (fun _ _ _ h => h) (Or.inl ⟨by rfl, ?_⟩) hHeld ?_ ?_
        rotate_left; (rintro w' ⟨s0, s1, s2, s3⟩; go_simp; with_reducible rfl); rotate_left; (simp only [Act.put, zA, zZ, zS, i64_w, i32_w]; rfl)
        refine pure_ (i := 28) (N := some 33) (v := ?_) (a' := ?_) (zF 40 536870911) rfl rfl (any_of HT_.out (by kernel_rfl)) (fun _ _ _ h => h) (Or.inl ⟨by rfl, ?_⟩) ?_ ?_
        rotate_left; (intro w'; go_simp; with_reducible rfl); rotate_left; (simp only [Act.put, zA, zZ, zS, i64_w, i32_w]; rfl)
        refine pure_ (i := 29) (N := some 34) (v := ?_) (a' := ?_) (zF 40 1073741823) rfl rfl (any_of HT_.out (by kernel_rfl)) (fun _ _ _ h => h) (Or.inl ⟨by rfl, ?_⟩) ?_ ?_
        rotate_left; (intro w'; go_simp; with_reducible rfl); rotate_left; (simp only [Act.put, zA, zZ, zS, i64_w, i32_w]; rfl)
        refine pure_ (i := 30) (N := some 35) (v := ?_) (a' := ?_) (zF 40 2147483647) rfl rfl (any_of HT_.out (by kernel_rfl)) (fun _ _ _ h => h) (Or.inl ⟨by rfl, ?_⟩) ?_ ?_
        rotate_left; (intro w'; go_simp; with_reducible rfl); rotate_left; (simp only [Act.put, zA, zZ, zS, i64_w, i32_w]; rfl)
        refine pure_ (i := 31) (N := some 36) (v := ?_) (a' := ?_) (zF 40 4294967295) rfl rfl (any_of HT_.out (by kernel_rfl)) (fun _ _ _ h => h) (Or.inl ⟨by rfl, ?_⟩) ?_ ?_
        rotate_left; (intro w'; go_simp; with_reducible rfl); rotate_left; (simp only [Act.put, zA, zZ, zS, i64_w, i32_w]; rfl)
        refine pure_ (i := 32) (N := some 37) (v := ?_) (a' := ?_) (zF 40 8589934591) rfl rfl (any_of HT_.out (by kernel_rfl)) (fun _ _ _ h => h) (Or.inl ⟨by rfl, ?_⟩) ?_ ?_
        rotate_left; (intro w'; go_simp; with_reducible rfl); rotate_left; (simp only [Act.put, zA, zZ, zS, i64_w, i32_w]; rfl)
        refine pure_ (i := 33) (N := some 38) (v := ?_) (a' := ?_) (zF 40 17179869183) rfl rfl (any_of HT_.out (by kernel_rfl)) (fun _ _ _ h => h) (Or.inl ⟨by rfl, ?_⟩) ?_ ?_
        rotate_left; (intro w'; go_simp; with_reducible rfl); rotate_left; (simp only [Act.put, zA, zZ, zS, i64_w, i32_w]; rfl)
        refine take_ (i := 34) (N := some 39) (v := ?_) (a' := ?_) (zF 40 34359738367) rfl rfl (take_ofW HT_.out HW_.out (by kernel_rfl)) (fun _ _ _ h => h) (Or.inl ⟨by rfl, ?_⟩) hHeld ?_ ?_
        rotate_left; (rintro w' ⟨s0, s1, s2, s3⟩; go_simp; with_reducible rfl); rotate_left; (simp only [Act.put, zA, zZ, zS, i64_w, i32_w]; rfl)
        refine pure_ (i := 35) (N := some 40) (v := ?_) (a' := ?_) (zF 40 68719476735) rfl rfl (any_of HT_.out (by kernel_rfl)) (fun _ _ _ h => h) (Or.inl ⟨by rfl, ?_⟩) ?_ ?_
        rotate_left; (intro w'; go_simp; with_reducible rfl); rotate_left; (simp only [Act.put, zA, zZ, zS, i64_w, i32_w]; rfl)
        refine take_ (i := 36) (N := some 41) (v := ?_) (a' := ?_) (zF 40 137438953471) rfl rfl (take_ofW HT_.out HW_.out (by kernel_rfl)) (fun _ _ _ h => h) (Or.inl ⟨by rfl, ?_⟩) hHeld ?_ ?_
        rotate_left; (rintro w' ⟨s0, s1, s2, s3⟩; go_simp; with_reducible rfl); rotate_left; (simp only [Act.put, zA, zZ, zS, i64_w, i32_w]; rfl)
        refine pure_ (i := 37) (N := some 42) (v := ?_) (a' := ?_) (zF 40 274877906943) rfl rfl (any_of HT_.out (by kernel_rfl)) (fun _ _ _ h => h) (Or.inl ⟨by rfl, ?_⟩) ?_ ?_
        rotate_left; (intro w'; go_simp; with_reducible rfl); rotate_left; (simp only [Act.put, zA, zZ, zS, i64_w, i32_w]; rfl)
        refine pure_ (i := 38) (N := some 43) (v := ?_) (a' := ?_) (zF 40 549755813887) rfl rfl (any_of HT_.out (by kernel_rfl)) (fun _ _ _ h => h) (Or.inl ⟨by rfl, ?_⟩) ?_ ?_
        rotate_left; (intro w'; go_simp; with_reducible rfl); rotate_left; (simp only [Act.put, zA, zZ, zS, i64_w, i32_w]; rfl)
        refine pure_ (i := 39) (N := some 44) (v := ?_) (a' := ?_) (zF 40 1099511627775) rfl rfl (any_of HT_.out (by kernel_rfl)) (fun _ _ _ h => h) (Or.inl ⟨by rfl, ?_⟩) ?_ ?_
        rotate_left; (intro w'; go_simp; with_reducible rfl); rotate_left; (simp only [Act.put, zA, zZ, zS, i64_w, i32_w]; rfl)
        refine done_ (done_of HT_.out (by kernel_rfl)) ?_
        clear hHeld
        go_wp2
        go_meet
        case rel => exact ⟨by rw [HT2.out], ⟨H2d.out⟩⟩
  case rest =>
    obtain ⟨rfl, hcut⟩ := hcut
    clear H1
    have H2 := Aside0.mk hcut.out
    clear hcut
    obtain ⟨w2, hw2⟩ : ∃ w_, w_ = wc := ⟨_, rfl⟩
    rw [← hw2] at H2 ⊢
    clear hw2
    go_upto_if 44 with (fail)
    go_cut [] from 44 to 51 (fun wc => Aside0 (MV B w0 wc gm gq n D T ⟨ps, da, pt, k2, cmd, st⟩ vd vp ve))
    case first =>
      cases htq : tq with
      | true =>
        have hk : k2 = cnt + 1 := by rw [HK2.out, htq]; rfl
        have hwr : wrap64 ((cnt : Int) + 1) = (k2 : Int) := by have := HPB.out; unfold wrap64; omega
        have x3 := H2.out.c3
        have f3 := H2.out.free 3
        have H3 := Aside0.mk (H2.out.set_cnt k2 (k2 : Int) rfl)
        clear hk htq
        go_wp2
        go_meet
        case rel => exact ⟨H3.out⟩
      | false =>
        have hk : k2 = cnt := by rw [HK2.out, htq]; rfl
        have HK := Aside0.mk hk
        clear hk htq
        go_wp2
        go_meet
        case rel => exact ⟨by rw [HK.out]; exact H2.out⟩
    case rest =>
      clear H2
      have H4 := Aside0.mk hcut.out
      clear hcut
      obtain ⟨w4, hw4⟩ : ∃ w_, w_ = wc := ⟨_, rfl⟩
      rw [← hw4] at H4 ⊢
      clear hw4
      go_upto_region 2 with (fail)
      go_cut [63] from 52 to 63 (fun v wc => v = .bool tp ∧ Aside0 (MV B w0 wc gm gq n D T ⟨ps, da, pt, k2, cmd, st⟩ vd vp ve))
      case first =>
        have x2 := H4.out.c2
        have x4 := H4.out.c4
        by_cases hs : st = 10
        · have ts : (st == 10) = true := by simpa using hs
          by_cases hc : cmd = 2147483647
          · have tc : (cmd == 2147483647) = true := by simpa using hc
            have ht : tp = true := by rw [HTP.out]; exact decide_eq_true ⟨hs, hc⟩
            have HT := Aside0.mk ht
            clear ht hs hc
            go_wp2
            go_meet
            case rel => exact ⟨by rw [HT.out], ⟨H4.out⟩⟩
          · have tc : (cmd == 2147483647) = false := by simpa using hc
            have ht : tp = false := by rw [HTP.out]; exact decide_eq_false (fun h => hc h.2)
            have HT := Aside0.mk ht
            clear ht hs hc
            go_wp2
            go_meet
            case rel => exact ⟨by rw [HT.out], ⟨H4.out⟩⟩
        · have ts : (st == 10) = false := by simpa using hs
          have ht : tp = false := by rw [HTP.out]; exact decide_eq_false (fun h => hs h.1)
          have HT := Aside0.mk ht
          clear ht hs
          go_wp2
          go_meet
          case rel => exact ⟨by rw [HT.out], ⟨H4.out⟩⟩
      case rest =>
        obtain ⟨rfl, hcut⟩ := hcut
        clear H4
        have H6 := Aside0.mk hcut.out
        clear hcut
        obtain ⟨w6, hw6⟩ : ∃ w_, w_ = wc := ⟨_, rfl⟩
        rw [← hw6] at H6 ⊢
        clear hw6
        go_upto_if 63 with (fail)
        go_cut [] from 63 to 65 (fun wc => Aside0 (MV B w0 wc gm gq n D T ⟨ps, da, pt, k2, c2, st⟩ vd vp ve))
        case first =>
          cases htp : tp with
          | true =>
            have hk : st = 10 ∧ cmd = 2147483647 := of_decide_eq_true (HTP.out.symm.trans htp)
            have HCC := Aside0.mk (show c2 = pnum da cmd by rw [HC2.out]; unfold sdc; rw [if_pos hk])
            clear hk htp
            go_wp2_with fail
            refine (number_ B w0 w6 gm gq n T D ⟨ps, da, pt, k2, cmd, st⟩ vd vp ve H6.out HBG.out).mono ?_
            rintro e w7 ⟨rfl, h7⟩
            have H7 := Aside0.mk h7
            clear h7
            go_wp2
            go_meet
            case rel => exact ⟨by rw [HCC.out]; exact H7.out⟩
          | false =>
            have hk : ¬ (st = 10 ∧ cmd = 2147483647) := of_decide_eq_false (HTP.out.symm.trans htp)
            have HCC := Aside0.mk (show c2 = cmd by rw [HC2.out]; unfold sdc; rw [if_neg hk])
            clear hk htp
            go_wp2
            go_meet
            case rel => exact ⟨by rw [HCC.out]; exact H6.out⟩
        case rest =>
          clear H6
          have H8 := Aside0.mk hcut.out
          clear hcut
          obtain ⟨w8, hw8⟩ : ∃ w_, w_ = wc := ⟨_, rfl⟩
          rw [← hw8] at H8 ⊢
          clear hw8
          obtain ⟨Ad, cd, hvd⟩ : ∃ A c, vd = .slice A da.length c := Kd.R_slice H8.out.rd
          have HVD := Aside0.mk hvd
          have HRD := Aside0.mk (show Kd.R (Kd.int .u8) 5 w8 B (fun _ => True) (.slice Ad da.length cd) da by rw [← hvd]; exact H8.out.rd)
          have HDL := Aside0.mk (show da.length ≤ T from H8.out.ld)
          have c6 := H8.out.c6.trans (by rw [hvd])
          have hS8 := Aside0.mk H8.out.lt
          clear hvd
          go_upto_region 5 with (first | ((with_reducible refine gate_builtin (b := .append) (xs := #[.const (.slice none 0 0), .tmp 69]) rfl ?_); at_builtin; refine Kd.R_append_rows (Kd.int .u8) (w0 := w8) w8.heap.size rfl (.const (.slice none 0 0)) (.tmp 69) 27 5 (.int .u8 0) 1 rfl Tryd.underlying27 info5 rfl (by decide) (by omega) (.slice none 0 0) ([] : List Int) da _ _ _ (fun _ => True) (fun _ => False) rfl rfl (Kd.R_nil _ _ _ _ _) (Kd.R_reads' HRD.out).2.2 (fun _ _ h => h) (fun _ h => h.elim) (fun _ _ => trivial) (Below.refl _ _) (Nat.le_refl _) (by have := HDL.out; have := HBG.out; show (0 + da.length) * 1 ≤ _; omega) ?_; intro v4 w9 ho hb hg hat; obtain ⟨A4, c4, e4⟩ : ∃ A c, v4 = .slice A da.length c := Kd.R_slice ho; subst e4; have H9 := Aside0.mk (H8.out.on hb); have HDAT := Aside0.mk (H8.out.fresh rfl ho); clear ho hb hg hat) | fail)
          clear c6 H8 HRD
          have x2 := H9.out.c2
          obtain ⟨hl, hh⟩ := HST.out
          have HC := Aside0.mk (show k2 ≤ n ∧ k2 ≤ 1000000 from HKN.out)
          rcases (show st = 1 ∨ st = 2 ∨ st = 3 ∨ st = 4 ∨ st = 5 ∨ st = 6 ∨ st = 7 ∨ st = 8 ∨ st = 9 ∨ st = 10 ∨ st = 11 ∨ st = 12 ∨ st = 13 by omega) with rfl | rfl | rfl | rfl | rfl | rfl | rfl | rfl | rfl | rfl | rfl | rfl | rfl
          · clear hl hh
            have x4 := H9.out.c4
            have f4 := H9.out.free 4
            have H10 := Aside0.mk (show MV B w0 (w9.setCell ⟨gm, 4, none⟩ (.int .i64 (Go.bits .or .i64 c2 b))) gm gq n D T ⟨ps, da, pt, k2, Go.bits .or .i64 c2 b, 1⟩ vd vp ve from H9.out.set_cmd (Go.bits .or .i64 c2 b))
            replace HDAT := Aside0.mk (show Kd.R (Kd.int .u8) 5 (w9.setCell ⟨gm, 4, none⟩ (.int .i64 (Go.bits .or .i64 c2 b))) B (okE gq vd vp) (.slice A4 da.length c4) da from Kd.R_set HDAT.out H9.out.bm (by decide) 4 _)
            go_upto_region 10 with (fail)
            clear x4 f4 x2 H9
            generalize w9.setCell ⟨gm, 4, none⟩ (.int .i64 (Go.bits .or .i64 c2 b)) = w11 at H10 HDAT ⊢
            refine start_ (n := 17) (S := (fun w' => w'.cell? ⟨gm, 8, none⟩ = some ve.v ∧ w'.cell? ⟨gm, 4, none⟩ = some (.int .i64 (Go.bits .or .i64 c2 b)))) (ds := [16]) #[false, false, false, false, false, false, false, false, false, false, false, false, false, false, false, false, false] (by kernel_rfl) rfl rfl ⟨H10.out.c8, H10.out.c4⟩ (fun hHeld => ?_)
            refine with_tabW e10_tab e10_bits (fun HT_ HW_ => ?_)
            have Ha := Aside0.mk (show MV B w0 w11.drew gm gq n D T ⟨ps, da, pt, k2, Go.bits .or .i64 c2 b, 1⟩ vd vp ve from H10.out.drew)
            have HDT := Aside0.mk (show Kd.R (Kd.int .u8) 5 w11.drew B (okE gq vd vp) (.slice A4 da.length c4) da from Kd.R_drew HDAT.out)
            clear HDAT
            generalize w11.drew = wy at Ha HDT hHeld ⊢
            refine pure_ (i := 0) (N := some 89) (v := ?_) (a' := ?_) (zF 17 1) rfl rfl (any_of HT_.out (by kernel_rfl)) (fun _ _ _ h => h) (Or.inl ⟨by rfl, ?_⟩) ?_ ?_
            rotate_left; (intro w'; go_simp; with_reducible rfl); rotate_left; (simp only [Act.put, zA, zZ, zS, i64_w, i32_w]; rfl)
            refine pure_ (i := 1) (N := some 90) (v := ?_) (a' := ?_) (zF 17 3) rfl rfl (any_of HT_.out (by kernel_rfl)) (fun _ _ _ h => h) (Or.inl ⟨by rfl, ?_⟩) ?_ ?_
            rotate_left; (intro w'; go_simp; with_reducible rfl); rotate_left; (simp only [Act.put, zA, zZ, zS, i64_w, i32_w]; rfl)
            refine pure_ (i := 2) (N := some 91) (v := ?_) (a' := ?_) (zF 17 7) rfl rfl (any_of HT_.out (by kernel_rfl)) (fun _ _ _ h => h) (Or.inl ⟨by rfl, ?_⟩) ?_ ?_
            rotate_left; (intro w'; go_simp; with_reducible rfl); rotate_left; (simp only [Act.put, zA, zZ, zS, i64_w, i32_w]; rfl)
            refine pure_ (i := 3) (N := some 92) (v := ?_) (a' := ?_) (zF 17 15) rfl rfl (any_of HT_.out (by kernel_rfl)) (fun _ _ _ h => h) (Or.inl ⟨by rfl, ?_⟩) ?_ ?_
            rotate_left; (intro w'; go_simp; with_reducible rfl); rotate_left; (simp only [Act.put, zA, zZ, zS, i64_w, i32_w]; rfl)
            refine pure_ (i := 5) (N := some 94) (v := ?_) (a' := ?_) (zF 17 47) rfl rfl (any_of HT_.out (by kernel_rfl)) (fun _ _ _ h => h) (Or.inl ⟨by rfl, ?_⟩) ?_ ?_
            rotate_left; (intro w'; go_simp; with_reducible rfl); rotate_left; (simp only [Act.put, zA, zZ, zS, i64_w, i32_w]; rfl)
            refine pure_ (i := 6) (N := some 95) (v := ?_) (a' := ?_) (zF 17 111) rfl rfl (any_of HT_.out (by kernel_rfl)) (fun _ _ _ h => h) (Or.inl ⟨by rfl, ?_⟩) ?_ ?_
            rotate_left; (intro w'; go_simp; with_reducible rfl); rotate_left; (simp only [Act.put, zA, zZ, zS, i64_w, i32_w]; rfl)
            refine pure_ (i := 7) (N := some 96) (v := ?_) (a' := ?_) (zF 17 239) rfl rfl (any_of HT_.out (by kernel_rfl)) (fun _ _ _ h => h) (Or.inl ⟨by rfl, ?_⟩) ?_ ?_
            rotate_left; (intro w'; go_simp; with_reducible rfl); rotate_left; (simp only [Act.put, zA, zZ, zS, i64_w, i32_w]; rfl)
            refine pure_ (i := 9) (N := some 98) (v := ?_) (a' := ?_) (zF 17 751) rfl rfl (any_of HT_.out (by kernel_rfl)) (fun _ _ _ h => h) (Or.inl ⟨by rfl, ?_⟩) ?_ ?_
            rotate_left; (intro w'; go_simp; with_reducible rfl); rotate_left; (simp only [Act.put, zA, zZ, zS, i64_w, i32_w]; rfl)
            refine take_ (i := 4) (N := some 93) (v := ?_) (a' := ?_) (zF 17 767) rfl rfl (take_ofW HT_.out HW_.out (by kernel_rfl)) (fun _ _ _ h => h) (Or.inl ⟨by rfl, ?_⟩) hHeld ?_ ?_
            rotate_left; (rintro w' ⟨s0, s1⟩; go_simp; with_reducible rfl); rotate_left; (simp only [Act.put, zA, zZ, zS, i64_w, i32_w]; rfl)
            refine take_ (i := 8) (N := some 97) (v := ?_) (a' := ?_) (zF 17 1023) rfl rfl (take_ofW HT_.out HW_.out (by kernel_rfl)) (fun _ _ _ h => h) (Or.inl ⟨by rfl, ?_⟩) hHeld ?_ ?_
            rotate_left; (rintro w' ⟨s0, s1⟩; go_simp; with_reducible rfl); rotate_left; (simp only [Act.put, zA, zZ, zS, i64_w, i32_w]; rfl)
            refine one_ (i := 10) (N := some 99) (zF 17 2047) rfl rfl (one_of HT_.out (by kernel_rfl)) (by decide) (fun K hK => ?_)
            refine goes_ Tryd.func70 (by kernel_rfl) rfl #[.pointer (some ⟨gm, 0, none⟩)] (by rfl) rfl rfl (by (try simp only [List.map_toArray, List.map_cons, List.map_nil]); first | done | rfl | (simp [Act.eval, *]; done)) ?_
            refine (counted_ B w0 _ gm gq n T D ⟨ps, da, pt, k2, Go.bits .or .i64 c2 b, 1⟩ vd vp ve Ha.out HC.out).mono ?_
            rintro e wc_ ⟨Ac, lc, cc, rfl, hrc, hbc⟩
            refine ⟨_, rfl, ?_⟩
            have Hb := Aside0.mk (Ha.out.on hbc)
            have HCT := Aside0.mk (Ha.out.fresh rfl hrc)
            have HDC := Aside0.mk (Kd.R_below HDT.out hbc)
            clear hrc hbc HDT Ha
            have HDT := HDC
            clear HDC
            refine hK.out _ _ ⟨Hb.out.c8, Hb.out.c4⟩ (fun hHeld => ?_)
            clear hK K
            refine norm_ (a' := ?_) ?_ ?_
            rotate_left
            · show Act.put _ (some 99) _ = _
              simp only [Act.put, zA, zZ, zS, i64_w, i32_w]
              rfl
            refine pure_ (i := 11) (N := some 100) (v := ?_) (a' := ?_) (zF 17 4095) rfl rfl (any_of HT_.out (by kernel_rfl)) (fun _ _ _ h => h) (Or.inl ⟨by rfl, ?_⟩) ?_ ?_
            rotate_left; (intro w'; go_simp; with_reducible rfl); rotate_left; (simp only [Act.put, zA, zZ, zS, i64_w, i32_w]; rfl)
            refine one_ (i := 12) (N := some 101) (zF 17 8191) rfl rfl (one_of HT_.out (by kernel_rfl)) (by decide) (fun K hK => ?_)
            refine value_ (w1 := ?_) (v := ?_) (by rfl) rfl ?_ ?_
            rotate_left 2
            · go_simp
              constructor
              · rfl
              · rfl
            refine hK.out _ _ ⟨(Hb.out.on (below_alloc (Below.refl _ _) _)).c8, (Hb.out.on (below_alloc (Below.refl _ _) _)).c4⟩ (fun hHeld => ?_)
            clear hK K
            refine norm_ (a' := ?_) ?_ ?_
            rotate_left
            · show Act.put _ (some 101) _ = _
              simp only [Act.put, zA, zZ, zS, i64_w, i32_w]
              rfl
            refine one_ (i := 13) (N := some 102) (zF 17 16383) rfl rfl (one_of HT_.out (by kernel_rfl)) (by decide) (fun K hK => ?_)
            obtain ⟨xe, hel, her, heh⟩ := Hb.out.re
            have HEL := Aside0.mk hel
            have HER := Aside0.mk her
            have HEH := Aside0.mk heh
            clear hel her heh
            refine Kd.R_append_step (Kd.raw 6) (w0 := _) B (by rfl) (.tmp 93) (.tmp 101) 38 71 (.agg #[.int .i64 0, .int .i64 0, .int .u8 0, .int .i64 0, .slice none 0 0, .slice none 0 0]) 80 rfl Tryd.underlying38 info71 rfl (by decide) (by omega) ve.v xe [.int .i64 2, .int .i64 0, .int .u8 0, .int .i64 (Go.bits .or .i64 c2 b), .slice Ac lc cc, .slice none 0 0] [.int .i64 2, .int .i64 0, .int .u8 0, .int .i64 (Go.bits .or .i64 c2 b), .slice Ac lc cc, .slice none 0 0] (fun _ => True) (fun _ => False) rfl rfl ?aP (fun _ hk => hk.elim) (fun _ _ => trivial) HER.out (Below.refl _ _) Hb.out.lt (by have := HEL.out; have := HBG.out; omega) ?_
            (case aP => exact ⟨rfl, rfl, fun u hu => by simp at hu; rcases hu with rfl | rfl | rfl | rfl | rfl | rfl <;> rfl⟩)
            intro v1 wz ho hb hg hat
            have HG := Aside0.mk hg
            have HO := Aside0.mk ho
            have HBB := Aside0.mk hb
            clear ho hb hg hat
            obtain ⟨A1, c1, e1⟩ : ∃ A c, v1 = .slice A (xe.length + 1) c := slice_snoc HO.out
            subst e1
            have k8 := (Hb.out.cell_grown HG.out (Hb.out.fm rfl (by decide) HER.out) 8).trans (show _ = some ve.v from rfl)
            have k4 := (Hb.out.cell_grown HG.out (Hb.out.fm rfl (by decide) HER.out) 4).trans (show _ = some (.int .i64 (Go.bits .or .i64 c2 b)) from rfl)
            have j8 := Hb.out.free_grown HG.out (Hb.out.fm rfl (by decide) HER.out) 8
            refine hK.out _ _ ⟨k8, k4⟩ (fun hHeld => ?_)
            clear hK K
            refine norm_ (a' := ?_) ?_ ?_
            rotate_left
            · show Act.put _ (some 102) _ = _
              simp only [Act.put, zA, zZ, zS, i64_w, i32_w]
              rfl
            refine pure_ (i := 14) (N := some 103) (v := ?_) (a' := ?_) (zF 17 32767) rfl rfl (any_of HT_.out (by kernel_rfl)) (fun _ _ _ h => h) (Or.inl ⟨by rfl, ?_⟩) ?_ ?_
            rotate_left; (intro w'; go_simp; with_reducible rfl); rotate_left; (simp only [Act.put, zA, zZ, zS, i64_w, i32_w]; rfl)
            refine pure_ (i := 15) (N := some 104) (v := ?_) (a' := ?_) (zF 17 65535) rfl rfl (any_of HT_.out (by kernel_rfl)) (fun _ _ _ h => h) (Or.inl ⟨by rfl, ?_⟩) ?_ ?_
            rotate_left; (intro w'; go_simp; with_reducible rfl); rotate_left; (simp only [Act.put, zA, zZ, zS, i64_w, i32_w]; rfl)
            refine last_ (i := 16) (N := none) (zF 17 131071) rfl rfl (one_of HT_.out (by kernel_rfl)) (by decide) (fun K hK => ?_)
            refine skip_ (w1 := ?_) (by rfl) rfl ?_ ?_
            rotate_left
            · go_simp
              with_reducible rfl
            refine hK.out _ _ ?_
            clear hK K
            refine done_ (done_of HT_.out (by kernel_rfl)) ?_
            clear hHeld
            go_wp2
            go_end0
            refine ⟨rfl, .slice A1 (xe.length + 1) c1, ?_⟩
            rw [sdisp_in n ⟨ps, da, pt, cnt, cmd, 1⟩ b k2 c2 (by have h_ := HK2.out; rw [HTQ.out] at h_; exact h_) HC2.out (.inl rfl)]
            exact Hb.out.put_e HEL.out HER.out HEH.out (show Ev1 _ _ _ _ ⟨2, 0, 0, _, ps.take k2, []⟩ from ⟨_, _, rfl, HCT.out, Kd.R_nil _ _ _ _ _⟩) HO.out HBB.out HG.out
          · clear hl hh
            have x4 := H9.out.c4
            have f4 := H9.out.free 4
            have H10 := Aside0.mk (show MV B w0 (w9.setCell ⟨gm, 4, none⟩ (.int .i64 (Go.bits .or .i64 c2 b))) gm gq n D T ⟨ps, da, pt, k2, Go.bits .or .i64 c2 b, 2⟩ vd vp ve from H9.out.set_cmd (Go.bits .or .i64 c2 b))
            replace HDAT := Aside0.mk (show Kd.R (Kd.int .u8) 5 (w9.setCell ⟨gm, 4, none⟩ (.int .i64 (Go.bits .or .i64 c2 b))) B (okE gq vd vp) (.slice A4 da.length c4) da from Kd.R_set HDAT.out H9.out.bm (by decide) 4 _)
            go_upto_region 10 with (fail)
            clear x4 f4 x2 H9
            generalize w9.setCell ⟨gm, 4, none⟩ (.int .i64 (Go.bits .or .i64 c2 b)) = w11 at H10 HDAT ⊢
            refine start_ (n := 17) (S := (fun w' => w'.cell? ⟨gm, 8, none⟩ = some ve.v ∧ w'.cell? ⟨gm, 4, none⟩ = some (.int .i64 (Go.bits .or .i64 c2 b)))) (ds := [16]) #[false, false, false, false, false, false, false, false, false, false, false, false, false, false, false, false, false] (by kernel_rfl) rfl rfl ⟨H10.out.c8, H10.out.c4⟩ (fun hHeld => ?_)
            refine with_tabW e10_tab e10_bits (fun HT_ HW_ => ?_)
            have Ha := Aside0.mk (show MV B w0 w11.drew gm gq n D T ⟨ps, da, pt, k2, Go.bits .or .i64 c2 b, 2⟩ vd vp ve from H10.out.drew)
            have HDT := Aside0.mk (show Kd.R (Kd.int .u8) 5 w11.drew B (okE gq vd vp) (.slice A4 da.length c4) da from Kd.R_drew HDAT.out)
            clear HDAT
            generalize w11.drew = wy at Ha HDT hHeld ⊢
            refine pure_ (i := 0) (N := some 89) (v := ?_) (a' := ?_) (zF 17 1) rfl rfl (any_of HT_.out (by kernel_rfl)) (fun _ _ _ h => h) (Or.inl ⟨by rfl, ?_⟩) ?_ ?_
            rotate_left; (intro w'; go_simp; with_reducible rfl); rotate_left; (simp only [Act.put, zA, zZ, zS, i64_w, i32_w]; rfl)
            refine pure_ (i := 1) (N := some 90) (v := ?_) (a' := ?_) (zF 17 3) rfl rfl (any_of HT_.out (by kernel_rfl)) (fun _ _ _ h => h) (Or.inl ⟨by rfl, ?_⟩) ?_ ?_
            rotate_left; (intro w'; go_simp; with_reducible rfl); rotate_left; (simp only [Act.put, zA, zZ, zS, i64_w, i32_w]; rfl)
            refine pure_ (i := 2) (N := some 91) (v := ?_) (a' := ?_) (zF 17 7) rfl rfl (any_of HT_.out (by kernel_rfl)) (fun _ _ _ h => h) (Or.inl ⟨by rfl, ?_⟩) ?_ ?_
            rotate_left; (intro w'; go_simp; with_reducible rfl); rotate_left; (simp only [Act.put, zA, zZ, zS, i64_w, i32_w]; rfl)
            refine pure_ (i := 3) (N := some 92) (v := ?_) (a' := ?_) (zF 17 15) rfl rfl (any_of HT_.out (by kernel_rfl)) (fun _ _ _ h => h) (Or.inl ⟨by rfl, ?_⟩) ?_ ?_
            rotate_left; (intro w'; go_simp; with_reducible rfl); rotate_left; (simp only [Act.put, zA, zZ, zS, i64_w, i32_w]; rfl)
            refine pure_ (i := 5) (N := some 94) (v := ?_) (a' := ?_) (zF 17 47) rfl rfl (any_of HT_.out (by kernel_rfl)) (fun _ _ _ h => h) (Or.inl ⟨by rfl, ?_⟩) ?_ ?_
            rotate_left; (intro w'; go_simp; with_reducible rfl); rotate_left; (simp only [Act.put, zA, zZ, zS, i64_w, i32_w]; rfl)
            refine pure_ (i := 6) (N := some 95) (v := ?_) (a' := ?_) (zF 17 111) rfl rfl (any_of HT_.out (by kernel_rfl)) (fun _ _ _ h => h) (Or.inl ⟨by rfl, ?_⟩) ?_ ?_
            rotate_left; (intro w'; go_simp; with_reducible rfl); rotate_left; (simp only [Act.put, zA, zZ, zS, i64_w, i32_w]; rfl)
            refine pure_ (i := 7) (N := some 96) (v := ?_) (a' := ?_) (zF 17 239) rfl rfl (any_of HT_.out (by kernel_rfl)) (fun _ _ _ h => h) (Or.inl ⟨by rfl, ?_⟩) ?_ ?_
            rotate_left; (intro w'; go_simp; with_reducible rfl); rotate_left; (simp only [Act.put, zA, zZ, zS, i64_w, i32_w]; rfl)
            refine pure_ (i := 9) (N := some 98) (v := ?_) (a' := ?_) (zF 17 751) rfl rfl (any_of HT_.out (by kernel_rfl)) (fun _ _ _ h => h) (Or.inl ⟨by rfl, ?_⟩) ?_ ?_
            rotate_left; (intro w'; go_simp; with_reducible rfl); rotate_left; (simp only [Act.put, zA, zZ, zS, i64_w, i32_w]; rfl)
            refine take_ (i := 4) (N := some 93) (v := ?_) (a' := ?_) (zF 17 767) rfl rfl (take_ofW HT_.out HW_.out (by kernel_rfl)) (fun _ _ _ h => h) (Or.inl ⟨by rfl, ?_⟩) hHeld ?_ ?_
            rotate_left; (rintro w' ⟨s0, s1⟩; go_simp; with_reducible rfl); rotate_left; (simp only [Act.put, zA, zZ, zS, i64_w, i32_w]; rfl)
            refine take_ (i := 8) (N := some 97) (v := ?_) (a' := ?_) (zF 17 1023) rfl rfl (take_ofW HT_.out HW_.out (by kernel_rfl)) (fun _ _ _ h => h) (Or.inl ⟨by rfl, ?_⟩) hHeld ?_ ?_
            rotate_left; (rintro w' ⟨s0, s1⟩; go_simp; with_reducible rfl); rotate_left; (simp only [Act.put, zA, zZ, zS, i64_w, i32_w]; rfl)
            refine one_ (i := 10) (N := some 99) (zF 17 2047) rfl rfl (one_of HT_.out (by kernel_rfl)) (by decide) (fun K hK => ?_)
            refine goes_ Tryd.func70 (by kernel_rfl) rfl #[.pointer (some ⟨gm, 0, none⟩)] (by rfl) rfl rfl (by (try simp only [List.map_toArray, List.map_cons, List.map_nil]); first | done | rfl | (simp [Act.eval, *]; done)) ?_
            refine (counted_ B w0 _ gm gq n T D ⟨ps, da, pt, k2, Go.bits .or .i64 c2 b, 2⟩ vd vp ve Ha.out HC.out).mono ?_
            rintro e wc_ ⟨Ac, lc, cc, rfl, hrc, hbc⟩
            refine ⟨_, rfl, ?_⟩
            have Hb := Aside0.mk (Ha.out.on hbc)
            have HCT := Aside0.mk (Ha.out.fresh rfl hrc)
            have HDC := Aside0.mk (Kd.R_below HDT.out hbc)
            clear hrc hbc HDT Ha
            have HDT := HDC
            clear HDC
            refine hK.out _ _ ⟨Hb.out.c8, Hb.out.c4⟩ (fun hHeld => ?_)
            clear hK K
            refine norm_ (a' := ?_) ?_ ?_
            rotate_left
            · show Act.put _ (some 99) _ = _
              simp only [Act.put, zA, zZ, zS, i64_w, i32_w]
              rfl
            refine pure_ (i := 11) (N := some 100) (v := ?_) (a' := ?_) (zF 17 4095) rfl rfl (any_of HT_.out (by kernel_rfl)) (fun _ _ _ h => h) (Or.inl ⟨by rfl, ?_⟩) ?_ ?_
            rotate_left; (intro w'; go_simp; with_reducible rfl); rotate_left; (simp only [Act.put, zA, zZ, zS, i64_w, i32_w]; rfl)
            refine one_ (i := 12) (N := some 101) (zF 17 8191) rfl rfl (one_of HT_.out (by kernel_rfl)) (by decide) (fun K hK => ?_)
            refine value_ (w1 := ?_) (v := ?_) (by rfl) rfl ?_ ?_
            rotate_left 2
            · go_simp
              constructor
              · rfl
              · rfl
            refine hK.out _ _ ⟨(Hb.out.on (below_alloc (Below.refl _ _) _)).c8, (Hb.out.on (below_alloc (Below.refl _ _) _)).c4⟩ (fun hHeld => ?_)
            clear hK K
            refine norm_ (a' := ?_) ?_ ?_
            rotate_left
            · show Act.put _ (some 101) _ = _
              simp only [Act.put, zA, zZ, zS, i64_w, i32_w]
              rfl
            refine one_ (i := 13) (N := some 102) (zF 17 16383) rfl rfl (one_of HT_.out (by kernel_rfl)) (by decide) (fun K hK => ?_)
            obtain ⟨xe, hel, her, heh⟩ := Hb.out.re
            have HEL := Aside0.mk hel
            have HER := Aside0.mk her
            have HEH := Aside0.mk heh
            clear hel her heh
            refine Kd.R_append_step (Kd.raw 6) (w0 := _) B (by rfl) (.tmp 93) (.tmp 101) 38 71 (.agg #[.int .i64 0, .int .i64 0, .int .u8 0, .int .i64 0, .slice none 0 0, .slice none 0 0]) 80 rfl Tryd.underlying38 info71 rfl (by decide) (by omega) ve.v xe [.int .i64 2, .int .i64 0, .int .u8 0, .int .i64 (Go.bits .or .i64 c2 b), .slice Ac lc cc, .slice none 0 0] [.int .i64 2, .int .i64 0, .int .u8 0, .int .i64 (Go.bits .or .i64 c2 b), .slice Ac lc cc, .slice none 0 0] (fun _ => True) (fun _ => False) rfl rfl ?aP (fun _ hk => hk.elim) (fun _ _ => trivial) HER.out (Below.refl _ _) Hb.out.lt (by have := HEL.out; have := HBG.out; omega) ?_
            (case aP => exact ⟨rfl, rfl, fun u hu => by simp at hu; rcases hu with rfl | rfl | rfl | rfl | rfl | rfl <;> rfl⟩)
            intro v1 wz ho hb hg hat
            have HG := Aside0.mk hg
            have HO := Aside0.mk ho
            have HBB := Aside0.mk hb
            clear ho hb hg hat
            obtain ⟨A1, c1, e1⟩ : ∃ A c, v1 = .slice A (xe.length + 1) c := slice_snoc HO.out
            subst e1
            have k8 := (Hb.out.cell_grown HG.out (Hb.out.fm rfl (by decide) HER.out) 8).trans (show _ = some ve.v from rfl)
            have k4 := (Hb.out.cell_grown HG.out (Hb.out.fm rfl (by decide) HER.out) 4).trans (show _ = some (.int .i64 (Go.bits .or .i64 c2 b)) from rfl)
            have j8 := Hb.out.free_grown HG.out (Hb.out.fm rfl (by decide) HER.out) 8
            refine hK.out _ _ ⟨k8, k4⟩ (fun hHeld => ?_)
            clear hK K
            refine norm_ (a' := ?_) ?_ ?_
            rotate_left
            · show Act.put _ (some 102) _ = _
              simp only [Act.put, zA, zZ, zS, i64_w, i32_w]
              rfl
            refine pure_ (i := 14) (N := some 103) (v := ?_) (a' := ?_) (zF 17 32767) rfl rfl (any_of HT_.out (by kernel_rfl)) (fun _ _ _ h => h) (Or.inl ⟨by rfl, ?_⟩) ?_ ?_
            rotate_left; (intro w'; go_simp; with_reducible rfl); rotate_left; (simp only [Act.put, zA, zZ, zS, i64_w, i32_w]; rfl)
            refine pure_ (i := 15) (N := some 104) (v := ?_) (a' := ?_) (zF 17 65535) rfl rfl (any_of HT_.out (by kernel_rfl)) (fun _ _ _ h => h) (Or.inl ⟨by rfl, ?_⟩) ?_ ?_
            rotate_left; (intro w'; go_simp; with_reducible rfl); rotate_left; (simp only [Act.put, zA, zZ, zS, i64_w, i32_w]; rfl)
            refine last_ (i := 16) (N := none) (zF 17 131071) rfl rfl (one_of HT_.out (by kernel_rfl)) (by decide) (fun K hK => ?_)
            refine skip_ (w1 := ?_) (by rfl) rfl ?_ ?_
            rotate_left
            · go_simp
              with_reducible rfl
            refine hK.out _ _ ?_
            clear hK K
            refine done_ (done_of HT_.out (by kernel_rfl)) ?_
            clear hHeld
            go_wp2
            go_end0
            refine ⟨rfl, .slice A1 (xe.length + 1) c1, ?_⟩
            rw [sdisp_in n ⟨ps, da, pt, cnt, cmd, 2⟩ b k2 c2 (by have h_ := HK2.out; rw [HTQ.out] at h_; exact h_) HC2.out (.inr (.inl rfl))]
            exact Hb.out.put_e HEL.out HER.out HEH.out (show Ev1 _ _ _ _ ⟨2, 0, 0, _, ps.take k2, []⟩ from ⟨_, _, rfl, HCT.out, Kd.R_nil _ _ _ _ _⟩) HO.out HBB.out HG.out
          · clear hl hh
            have x4 := H9.out.c4
            have f4 := H9.out.free 4
            have H10 := Aside0.mk (show MV B w0 (w9.setCell ⟨gm, 4, none⟩ (.int .i64 (Go.bits .or .i64 c2 b))) gm gq n D T ⟨ps, da, pt, k2, Go.bits .or .i64 c2 b, 3⟩ vd vp ve from H9.out.set_cmd (Go.bits .or .i64 c2 b))
            replace HDAT := Aside0.mk (show Kd.R (Kd.int .u8) 5 (w9.setCell ⟨gm, 4, none⟩ (.int .i64 (Go.bits .or .i64 c2 b))) B (okE gq vd vp) (.slice A4 da.length c4) da from Kd.R_set HDAT.out H9.out.bm (by decide) 4 _)
            go_upto_region 10 with (fail)
            clear x4 f4 x2 H9
            generalize w9.setCell ⟨gm, 4, none⟩ (.int .i64 (Go.bits .or .i64 c2 b)) = w11 at H10 HDAT ⊢
            refine start_ (n := 17) (S := (fun w' => w'.cell? ⟨gm, 8, none⟩ = some ve.v ∧ w'.cell? ⟨gm, 4, none⟩ = some (.int .i64 (Go.bits .or .i64 c2 b)))) (ds := [16]) #[false, false, false, false, false, false, false, false, false, false, false, false, false, false, false, false, false] (by kernel_rfl) rfl rfl ⟨H10.out.c8, H10.out.c4⟩ (fun hHeld => ?_)
            refine with_tabW e10_tab e10_bits (fun HT_ HW_ => ?_)
            have Ha := Aside0.mk (show MV B w0 w11.drew gm gq n D T ⟨ps, da, pt, k2, Go.bits .or .i64 c2 b, 3⟩ vd vp ve from H10.out.drew)
            have HDT := Aside0.mk (show Kd.R (Kd.int .u8) 5 w11.drew B (okE gq vd vp) (.slice A4 da.length c4) da from Kd.R_drew HDAT.out)
            clear HDAT
            generalize w11.drew = wy at Ha HDT hHeld ⊢
            refine pure_ (i := 0) (N := some 89) (v := ?_) (a' := ?_) (zF 17 1) rfl rfl (any_of HT_.out (by kernel_rfl)) (fun _ _ _ h => h) (Or.inl ⟨by rfl, ?_⟩) ?_ ?_
            rotate_left; (intro w'; go_simp; with_reducible rfl); rotate_left; (simp only [Act.put, zA, zZ, zS, i64_w, i32_w]; rfl)
            refine pure_ (i := 1) (N := some 90) (v := ?_) (a' := ?_) (zF 17 3) rfl rfl (any_of HT_.out (by kernel_rfl)) (fun _ _ _ h => h) (Or.inl ⟨by rfl, ?_⟩) ?_ ?_
            rotate_left; (intro w'; go_simp; with_reducible rfl); rotate_left; (simp only [Act.put, zA, zZ, zS, i64_w, i32_w]; rfl)
            refine pure_ (i := 2) (N := some 91) (v := ?_) (a' := ?_) (zF 17 7) rfl rfl (any_of HT_.out (by kernel_rfl)) (fun _ _ _ h => h) (Or.inl ⟨by rfl, ?_⟩) ?_ ?_
            rotate_left; (intro w'; go_simp; with_reducible rfl); rotate_left; (simp only [Act.put, zA, zZ, zS, i64_w, i32_w]; rfl)
            refine pure_ (i := 3) (N := some 92) (v := ?_) (a' := ?_) (zF 17 15) rfl rfl (any_of HT_.out (by kernel_rfl)) (fun _ _ _ h => h) (Or.inl ⟨by rfl, ?_⟩) ?_ ?_
            rotate_left; (intro w'; go_simp; with_reducible rfl); rotate_left; (simp only [Act.put, zA, zZ, zS, i64_w, i32_w]; rfl)
            refine pure_ (i := 5) (N := some 94) (v := ?_) (a' := ?_) (zF 17 47) rfl rfl (any_of HT_.out (by kernel_rfl)) (fun _ _ _ h => h) (Or.inl ⟨by rfl, ?_⟩) ?_ ?_
            rotate_left; (intro w'; go_simp; with_reducible rfl); rotate_left; (simp only [Act.put, zA, zZ, zS, i64_w, i32_w]; rfl)
            refine pure_ (i := 6) (N := some 95) (v := ?_) (a' := ?_) (zF 17 111) rfl rfl (any_of HT_.out (by kernel_rfl)) (fun _ _ _ h => h) (Or.inl ⟨by rfl, ?_⟩) ?_ ?_
            rotate_left; (intro w'; go_simp; with_reducible rfl); rotate_left; (simp only [Act.put, zA, zZ, zS, i64_w, i32_w]; rfl)
            refine pure_ (i := 7) (N := some 96) (v := ?_) (a' := ?_) (zF 17 239) rfl rfl (any_of HT_.out (by kernel_rfl)) (fun _ _ _ h => h) (Or.inl ⟨by rfl, ?_⟩) ?_ ?_
            rotate_left; (intro w'; go_simp; with_reducible rfl); rotate_left; (simp only [Act.put, zA, zZ, zS, i64_w, i32_w]; rfl)
            refine pure_ (i := 9) (N := some 98) (v := ?_) (a' := ?_) (zF 17 751) rfl rfl (any_of HT_.out (by kernel_rfl)) (fun _ _ _ h => h) (Or.inl ⟨by rfl, ?_⟩) ?_ ?_
            rotate_left; (intro w'; go_simp; with_reducible rfl); rotate_left; (simp only [Act.put, zA, zZ, zS, i64_w, i32_w]; rfl)
            refine take_ (i := 4) (N := some 93) (v := ?_) (a' := ?_) (zF 17 767) rfl rfl (take_ofW HT_.out HW_.out (by kernel_rfl)) (fun _ _ _ h => h) (Or.inl ⟨by rfl, ?_⟩) hHeld ?_ ?_
            rotate_left; (rintro w' ⟨s0, s1⟩; go_simp; with_reducible rfl); rotate_left; (simp only [Act.put, zA, zZ, zS, i64_w, i32_w]; rfl)
            refine take_ (i := 8) (N := some 97) (v := ?_) (a' := ?_) (zF 17 1023) rfl rfl (take_ofW HT_.out HW_.out (by kernel_rfl)) (fun _ _ _ h => h) (Or.inl ⟨by rfl, ?_⟩) hHeld ?_ ?_
            rotate_left; (rintro w' ⟨s0, s1⟩; go_simp; with_reducible rfl); rotate_left; (simp only [Act.put, zA, zZ, zS, i64_w, i32_w]; rfl)
            refine one_ (i := 10) (N := some 99) (zF 17 2047) rfl rfl (one_of HT_.out (by kernel_rfl)) (by decide) (fun K hK => ?_)
            refine goes_ Tryd.func70 (by kernel_rfl) rfl #[.pointer (some ⟨gm, 0, none⟩)] (by rfl) rfl rfl (by (try simp only [List.map_toArray, List.map_cons, List.map_nil]); first | done | rfl | (simp [Act.eval, *]; done)) ?_
            refine (counted_ B w0 _ gm gq n T D ⟨ps, da, pt, k2, Go.bits .or .i64 c2 b, 3⟩ vd vp ve Ha.out HC.out).mono ?_
            rintro e wc_ ⟨Ac, lc, cc, rfl, hrc, hbc⟩
            refine ⟨_, rfl, ?_⟩
            have Hb := Aside0.mk (Ha.out.on hbc)
            have HCT := Aside0.mk (Ha.out.fresh rfl hrc)
            have HDC := Aside0.mk (Kd.R_below HDT.out hbc)
            clear hrc hbc HDT Ha
            have HDT := HDC
            clear HDC
            refine hK.out _ _ ⟨Hb.out.c8, Hb.out.c4⟩ (fun hHeld => ?_)
            clear hK K
            refine norm_ (a' := ?_) ?_ ?_
            rotate_left
            · show Act.put _ (some 99) _ = _
              simp only [Act.put, zA, zZ, zS, i64_w, i32_w]
              rfl
            refine pure_ (i := 11) (N := some 100) (v := ?_) (a' := ?_) (zF 17 4095) rfl rfl (any_of HT_.out (by kernel_rfl)) (fun _ _ _ h => h) (Or.inl ⟨by rfl, ?_⟩) ?_ ?_
            rotate_left; (intro w'; go_simp; with_reducible rfl); rotate_left; (simp only [Act.put, zA, zZ, zS, i64_w, i32_w]; rfl)
            refine one_ (i := 12) (N := some 101) (zF 17 8191) rfl rfl (one_of HT_.out (by kernel_rfl)) (by decide) (fun K hK => ?_)
            refine value_ (w1 := ?_) (v := ?_) (by rfl) rfl ?_ ?_
            rotate_left 2
            · go_simp
              constructor
              · rfl
              · rfl
            refine hK.out _ _ ⟨(Hb.out.on (below_alloc (Below.refl _ _) _)).c8, (Hb.out.on (below_alloc (Below.refl _ _) _)).c4⟩ (fun hHeld => ?_)
            clear hK K
            refine norm_ (a' := ?_) ?_ ?_
            rotate_left
            · show Act.put _ (some 101) _ = _
              simp only [Act.put, zA, zZ, zS, i64_w, i32_w]
              rfl
            refine one_ (i := 13) (N := some 102) (zF 17 16383) rfl rfl (one_of HT_.out (by kernel_rfl)) (by decide) (fun K hK => ?_)
            obtain ⟨xe, hel, her, heh⟩ := Hb.out.re
            have HEL := Aside0.mk hel
            have HER := Aside0.mk her
            have HEH := Aside0.mk heh
            clear hel her heh
            refine Kd.R_append_step (Kd.raw 6) (w0 := _) B (by rfl) (.tmp 93) (.tmp 101) 38 71 (.agg #[.int .i64 0, .int .i64 0, .int .u8 0, .int .i64 0, .slice none 0 0, .slice none 0 0]) 80 rfl Tryd.underlying38 info71 rfl (by decide) (by omega) ve.v xe [.int .i64 2, .int .i64 0, .int .u8 0, .int .i64 (Go.bits .or .i64 c2 b), .slice Ac lc cc, .slice none 0 0] [.int .i64 2, .int .i64 0, .int .u8 0, .int .i64 (Go.bits .or .i64 c2 b), .slice Ac lc cc, .slice none 0 0] (fun _ => True) (fun _ => False) rfl rfl ?aP (fun _ hk => hk.elim) (fun _ _ => trivial) HER.out (Below.refl _ _) Hb.out.lt (by have := HEL.out; have := HBG.out; omega) ?_
            (case aP => exact ⟨rfl, rfl, fun u hu => by simp at hu; rcases hu with rfl | rfl | rfl | rfl | rfl | rfl <;> rfl⟩)
            intro v1 wz ho hb hg hat
            have HG := Aside0.mk hg
            have HO := Aside0.mk ho
            have HBB := Aside0.mk hb
            clear ho hb hg hat
            obtain ⟨A1, c1, e1⟩ : ∃ A c, v1 = .slice A (xe.length + 1) c := slice_snoc HO.out
            subst e1
            have k8 := (Hb.out.cell_grown HG.out (Hb.out.fm rfl (by decide) HER.out) 8).trans (show _ = some ve.v from rfl)
            have k4 := (Hb.out.cell_grown HG.out (Hb.out.fm rfl (by decide) HER.out) 4).trans (show _ = some (.int .i64 (Go.bits .or .i64 c2 b)) from rfl)
            have j8 := Hb.out.free_grown HG.out (Hb.out.fm rfl (by decide) HER.out) 8
            refine hK.out _ _ ⟨k8, k4⟩ (fun hHeld => ?_)
            clear hK K
            refine norm_ (a' := ?_) ?_ ?_
            rotate_left
            · show Act.put _ (some 102) _ = _
              simp only [Act.put, zA, zZ, zS, i64_w, i32_w]
              rfl
            refine pure_ (i := 14) (N := some 103) (v := ?_) (a' := ?_) (zF 17 32767) rfl rfl (any_of HT_.out (by kernel_rfl)) (fun _ _ _ h => h) (Or.inl ⟨by rfl, ?_⟩) ?_ ?_
            rotate_left; (intro w'; go_simp; with_reducible rfl); rotate_left; (simp only [Act.put, zA, zZ, zS, i64_w, i32_w]; rfl)
            refine pure_ (i := 15) (N := some 104) (v := ?_) (a' := ?_) (zF 17 65535) rfl rfl (any_of HT_.out (by kernel_rfl)) (fun _ _ _ h => h) (Or.inl ⟨by rfl, ?_⟩) ?_ ?_
            rotate_left; (intro w'; go_simp; with_reducible rfl); rotate_left; (simp only [Act.put, zA, zZ, zS, i64_w, i32_w]; rfl)
            refine last_ (i := 16) (N := none) (zF 17 131071) rfl rfl (one_of HT_.out (by kernel_rfl)) (by decide) (fun K hK => ?_)
            refine skip_ (w1 := ?_) (by rfl) rfl ?_ ?_
            rotate_left
            · go_simp
              with_reducible rfl
            refine hK.out _ _ ?_
            clear hK K
            refine done_ (done_of HT_.out (by kernel_rfl)) ?_
            clear hHeld
            go_wp2
            go_end0
            refine ⟨rfl, .slice A1 (xe.length + 1) c1, ?_⟩
            rw [sdisp_in n ⟨ps, da, pt, cnt, cmd, 3⟩ b k2 c2 (by have h_ := HK2.out; rw [HTQ.out] at h_; exact h_) HC2.out (.inr (.inr (.inl rfl)))]
            exact Hb.out.put_e HEL.out HER.out HEH.out (show Ev1 _ _ _ _ ⟨2, 0, 0, _, ps.take k2, []⟩ from ⟨_, _, rfl, HCT.out, Kd.R_nil _ _ _ _ _⟩) HO.out HBB.out HG.out
          · clear hl hh
            go_upto_region 19 with (fail)
            clear x2
            refine start_ (n := 18) (S := (fun w' => w'.cell? ⟨gm, 8, none⟩ = some ve.v ∧ w'.cell? ⟨gm, 4, none⟩ = some (.int .i64 c2))) (ds := [17]) #[false, false, false, false, false, false, false, false, false, false, false, false, false, false, false, false, false, false] (by kernel_rfl) rfl rfl ⟨H9.out.c8, H9.out.c4⟩ (fun hHeld => ?_)
            refine with_tabW e19_tab e19_bits (fun HT_ HW_ => ?_)
            have Ha := Aside0.mk (show MV B w0 w9.drew gm gq n D T ⟨ps, da, pt, k2, c2, 4⟩ vd vp ve from H9.out.drew)
            have HDT := Aside0.mk (show Kd.R (Kd.int .u8) 5 w9.drew B (okE gq vd vp) (.slice A4 da.length c4) da from Kd.R_drew HDAT.out)
            clear HDAT
            generalize w9.drew = wy at Ha HDT hHeld ⊢
            refine pure_ (i := 0) (N := some 137) (v := ?_) (a' := ?_) (zF 18 1) rfl rfl (any_of HT_.out (by kernel_rfl)) (fun _ _ _ h => h) (Or.inl ⟨by rfl, ?_⟩) ?_ ?_
            rotate_left; (intro w'; go_simp; with_reducible rfl); rotate_left; (simp only [Act.put, zA, zZ, zS, i64_w, i32_w]; rfl)
            refine pure_ (i := 1) (N := some 138) (v := ?_) (a' := ?_) (zF 18 3) rfl rfl (any_of HT_.out (by kernel_rfl)) (fun _ _ _ h => h) (Or.inl ⟨by rfl, ?_⟩) ?_ ?_
            rotate_left; (intro w'; go_simp; with_reducible rfl); rotate_left; (simp only [Act.put, zA, zZ, zS, i64_w, i32_w]; rfl)
            refine pure_ (i := 2) (N := some 139) (v := ?_) (a' := ?_) (zF 18 7) rfl rfl (any_of HT_.out (by kernel_rfl)) (fun _ _ _ h => h) (Or.inl ⟨by rfl, ?_⟩) ?_ ?_
            rotate_left; (intro w'; go_simp; with_reducible rfl); rotate_left; (simp only [Act.put, zA, zZ, zS, i64_w, i32_w]; rfl)
            refine pure_ (i := 3) (N := some 140) (v := ?_) (a' := ?_) (zF 18 15) rfl rfl (any_of HT_.out (by kernel_rfl)) (fun _ _ _ h => h) (Or.inl ⟨by rfl, ?_⟩) ?_ ?_
            rotate_left; (intro w'; go_simp; with_reducible rfl); rotate_left; (simp only [Act.put, zA, zZ, zS, i64_w, i32_w]; rfl)
            refine pure_ (i := 5) (N := some 142) (v := ?_) (a' := ?_) (zF 18 47) rfl rfl (any_of HT_.out (by kernel_rfl)) (fun _ _ _ h => h) (Or.inl ⟨by rfl, ?_⟩) ?_ ?_
            rotate_left; (intro w'; go_simp; with_reducible rfl); rotate_left; (simp only [Act.put, zA, zZ, zS, i64_w, i32_w]; rfl)
            refine pure_ (i := 6) (N := some 143) (v := ?_) (a' := ?_) (zF 18 111) rfl rfl (any_of HT_.out (by kernel_rfl)) (fun _ _ _ h => h) (Or.inl ⟨by rfl, ?_⟩) ?_ ?_
            rotate_left; (intro w'; go_simp; with_reducible rfl); rotate_left; (simp only [Act.put, zA, zZ, zS, i64_w, i32_w]; rfl)
            refine pure_ (i := 7) (N := some 144) (v := ?_) (a' := ?_) (zF 18 239) rfl rfl (any_of HT_.out (by kernel_rfl)) (fun _ _ _ h => h) (Or.inl ⟨by rfl, ?_⟩) ?_ ?_
            rotate_left; (intro w'; go_simp; with_reducible rfl); rotate_left; (simp only [Act.put, zA, zZ, zS, i64_w, i32_w]; rfl)
            refine pure_ (i := 9) (N := some 146) (v := ?_) (a' := ?_) (zF 18 751) rfl rfl (any_of HT_.out (by kernel_rfl)) (fun _ _ _ h => h) (Or.inl ⟨by rfl, ?_⟩) ?_ ?_
            rotate_left; (intro w'; go_simp; with_reducible rfl); rotate_left; (simp only [Act.put, zA, zZ, zS, i64_w, i32_w]; rfl)
            refine pure_ (i := 11) (N := some 148) (v := ?_) (a' := ?_) (zF 18 2799) rfl rfl (any_of HT_.out (by kernel_rfl)) (fun _ _ _ h => h) (Or.inl ⟨by rfl, ?_⟩) ?_ ?_
            rotate_left; (intro w'; go_simp; with_reducible rfl); rotate_left; (simp only [Act.put, zA, zZ, zS, i64_w, i32_w]; rfl)
            refine take_ (i := 4) (N := some 141) (v := ?_) (a' := ?_) (zF 18 2815) rfl rfl (take_ofW HT_.out HW_.out (by kernel_rfl)) (fun _ _ _ h => h) (Or.inl ⟨by rfl, ?_⟩) hHeld ?_ ?_
            rotate_left; (rintro w' ⟨s0, s1⟩; go_simp; with_reducible rfl); rotate_left; (simp only [Act.put, zA, zZ, zS, i64_w, i32_w]; rfl)
            refine take_ (i := 8) (N := some 145) (v := ?_) (a' := ?_) (zF 18 3071) rfl rfl (take_ofW HT_.out HW_.out (by kernel_rfl)) (fun _ _ _ h => h) (Or.inl ⟨by rfl, ?_⟩) hHeld ?_ ?_
            rotate_left; (rintro w' ⟨s0, s1⟩; go_simp; with_reducible rfl); rotate_left; (simp only [Act.put, zA, zZ, zS, i64_w, i32_w]; rfl)
            refine one_ (i := 10) (N := some 147) (zF 18 4095) rfl rfl (one_of HT_.out (by kernel_rfl)) (by decide) (fun K hK => ?_)
            refine goes_ Tryd.func70 (by kernel_rfl) rfl #[.pointer (some ⟨gm, 0, none⟩)] (by rfl) rfl rfl (by (try simp only [List.map_toArray, List.map_cons, List.map_nil]); first | done | rfl | (simp [Act.eval, *]; done)) ?_
            refine (counted_ B w0 _ gm gq n T D ⟨ps, da, pt, k2, c2, 4⟩ vd vp ve Ha.out HC.out).mono ?_
            rintro e wc_ ⟨Ac, lc, cc, rfl, hrc, hbc⟩
            refine ⟨_, rfl, ?_⟩
            have Hb := Aside0.mk (Ha.out.on hbc)
            have HCT := Aside0.mk (Ha.out.fresh rfl hrc)
            have HDC := Aside0.mk (Kd.R_below HDT.out hbc)
            clear hrc hbc HDT Ha
            have HDT := HDC
            clear HDC
            refine hK.out _ _ ⟨Hb.out.c8, Hb.out.c4⟩ (fun hHeld => ?_)
            clear hK K
            refine norm_ (a' := ?_) ?_ ?_
            rotate_left
            · show Act.put _ (some 147) _ = _
              simp only [Act.put, zA, zZ, zS, i64_w, i32_w]
              rfl
            refine pure_ (i := 12) (N := some 149) (v := ?_) (a' := ?_) (zF 18 8191) rfl rfl (any_of HT_.out (by kernel_rfl)) (fun _ _ _ h => h) (Or.inl ⟨by rfl, ?_⟩) ?_ ?_
            rotate_left; (intro w'; go_simp; with_reducible rfl); rotate_left; (simp only [Act.put, zA, zZ, zS, i64_w, i32_w]; rfl)
            refine one_ (i := 13) (N := some 150) (zF 18 16383) rfl rfl (one_of HT_.out (by kernel_rfl)) (by decide) (fun K hK => ?_)
            refine value_ (w1 := ?_) (v := ?_) (by rfl) rfl ?_ ?_
            rotate_left 2
            · go_simp
              constructor
              · rfl
              · rfl
            refine hK.out _ _ ⟨(Hb.out.on (below_alloc (Below.refl _ _) _)).c8, (Hb.out.on (below_alloc (Below.refl _ _) _)).c4⟩ (fun hHeld => ?_)
            clear hK K
            refine norm_ (a' := ?_) ?_ ?_
            rotate_left
            · show Act.put _ (some 150) _ = _
              simp only [Act.put, zA, zZ, zS, i64_w, i32_w]
              rfl
            refine one_ (i := 14) (N := some 151) (zF 18 32767) rfl rfl (one_of HT_.out (by kernel_rfl)) (by decide) (fun K hK => ?_)
            obtain ⟨xe, hel, her, heh⟩ := Hb.out.re
            have HEL := Aside0.mk hel
            have HER := Aside0.mk her
            have HEH := Aside0.mk heh
            clear hel her heh
            refine Kd.R_append_step (Kd.raw 6) (w0 := _) B (by rfl) (.tmp 141) (.tmp 150) 38 71 (.agg #[.int .i64 0, .int .i64 0, .int .u8 0, .int .i64 0, .slice none 0 0, .slice none 0 0]) 80 rfl Tryd.underlying38 info71 rfl (by decide) (by omega) ve.v xe [.int .i64 4, .int .i64 0, .int .u8 0, .int .i64 c2, .slice Ac lc cc, .slice A4 da.length c4] [.int .i64 4, .int .i64 0, .int .u8 0, .int .i64 c2, .slice Ac lc cc, .slice A4 da.length c4] (fun _ => True) (fun _ => False) rfl rfl ?aP (fun _ hk => hk.elim) (fun _ _ => trivial) HER.out (Below.refl _ _) Hb.out.lt (by have := HEL.out; have := HBG.out; omega) ?_
            (case aP => exact ⟨rfl, rfl, fun u hu => by simp at hu; rcases hu with rfl | rfl | rfl | rfl | rfl | rfl <;> rfl⟩)
            intro v1 wz ho hb hg hat
            have HG := Aside0.mk hg
            have HO := Aside0.mk ho
            have HBB := Aside0.mk hb
            clear ho hb hg hat
            obtain ⟨A1, c1, e1⟩ : ∃ A c, v1 = .slice A (xe.length + 1) c := slice_snoc HO.out
            subst e1
            have k8 := (Hb.out.cell_grown HG.out (Hb.out.fm rfl (by decide) HER.out) 8).trans (show _ = some ve.v from rfl)
            have k4 := (Hb.out.cell_grown HG.out (Hb.out.fm rfl (by decide) HER.out) 4).trans (show _ = some (.int .i64 c2) from rfl)
            have j8 := Hb.out.free_grown HG.out (Hb.out.fm rfl (by decide) HER.out) 8
            refine hK.out _ _ ⟨k8, k4⟩ (fun hHeld => ?_)
            clear hK K
            refine norm_ (a' := ?_) ?_ ?_
            rotate_left
            · show Act.put _ (some 151) _ = _
              simp only [Act.put, zA, zZ, zS, i64_w, i32_w]
              rfl
            refine pure_ (i := 15) (N := some 152) (v := ?_) (a' := ?_) (zF 18 65535) rfl rfl (any_of HT_.out (by kernel_rfl)) (fun _ _ _ h => h) (Or.inl ⟨by rfl, ?_⟩) ?_ ?_
            rotate_left; (intro w'; go_simp; with_reducible rfl); rotate_left; (simp only [Act.put, zA, zZ, zS, i64_w, i32_w]; rfl)
            refine pure_ (i := 16) (N := some 153) (v := ?_) (a' := ?_) (zF 18 131071) rfl rfl (any_of HT_.out (by kernel_rfl)) (fun _ _ _ h => h) (Or.inl ⟨by rfl, ?_⟩) ?_ ?_
            rotate_left; (intro w'; go_simp; with_reducible rfl); rotate_left; (simp only [Act.put, zA, zZ, zS, i64_w, i32_w]; rfl)
            refine last_ (i := 17) (N := none) (zF 18 262143) rfl rfl (one_of HT_.out (by kernel_rfl)) (by decide) (fun K hK => ?_)
            refine skip_ (w1 := ?_) (by rfl) rfl ?_ ?_
            rotate_left
            · go_simp
              with_reducible rfl
            refine hK.out _ _ ?_
            clear hK K
            refine done_ (done_of HT_.out (by kernel_rfl)) ?_
            clear hHeld
            go_wp2
            go_end0
            refine ⟨rfl, .slice A1 (xe.length + 1) c1, ?_⟩
            rw [sdisp_out n ⟨ps, da, pt, cnt, cmd, 4⟩ b k2 c2 (by have h_ := HK2.out; rw [HTQ.out] at h_; exact h_) HC2.out (by show ¬ ((4 : Int) = 1 ∨ (4 : Int) = 2 ∨ (4 : Int) = 3 ∨ (4 : Int) = 8 ∨ (4 : Int) = 9); decide)]
            exact Hb.out.put_e HEL.out HER.out HEH.out (show Ev1 _ _ _ _ ⟨4, 0, 0, c2, ps.take k2, da⟩ from ⟨_, _, rfl, HCT.out, HDT.out⟩) HO.out HBB.out HG.out
          · clear hl hh
            go_upto_region 19 with (fail)
            clear x2
            refine start_ (n := 18) (S := (fun w' => w'.cell? ⟨gm, 8, none⟩ = some ve.v ∧ w'.cell? ⟨gm, 4, none⟩ = some (.int .i64 c2))) (ds := [17]) #[false, false, false, false, false, false, false, false, false, false, false, false, false, false, false, false, false, false] (by kernel_rfl) rfl rfl ⟨H9.out.c8, H9.out.c4⟩ (fun hHeld => ?_)
            refine with_tabW e19_tab e19_bits (fun HT_ HW_ => ?_)
            have Ha := Aside0.mk (show MV B w0 w9.drew gm gq n D T ⟨ps, da, pt, k2, c2, 5⟩ vd vp ve from H9.out.drew)
            have HDT := Aside0.mk (show Kd.R (Kd.int .u8) 5 w9.drew B (okE gq vd vp) (.slice A4 da.length c4) da from Kd.R_drew HDAT.out)
            clear HDAT
            generalize w9.drew = wy at Ha HDT hHeld ⊢
            refine pure_ (i := 0) (N := some 137) (v := ?_) (a' := ?_) (zF 18 1) rfl rfl (any_of HT_.out (by kernel_rfl)) (fun _ _ _ h => h) (Or.inl ⟨by rfl, ?_⟩) ?_ ?_
            rotate_left; (intro w'; go_simp; with_reducible rfl); rotate_left; (simp only [Act.put, zA, zZ, zS, i64_w, i32_w]; rfl)
            refine pure_ (i := 1) (N := some 138) (v := ?_) (a' := ?_) (zF 18 3) rfl rfl (any_of HT_.out (by kernel_rfl)) (fun _ _ _ h => h) (Or.inl ⟨by rfl, ?_⟩) ?_ ?_
            rotate_left; (intro w'; go_simp; with_reducible rfl); rotate_left; (simp only [Act.put, zA, zZ, zS, i64_w, i32_w]; rfl)
            refine pure_ (i := 2) (N := some 139) (v := ?_) (a' := ?_) (zF 18 7) rfl rfl (any_of HT_.out (by kernel_rfl)) (fun _ _ _ h => h) (Or.inl ⟨by rfl, ?_⟩) ?_ ?_
            rotate_left; (intro w'; go_simp; with_reducible rfl); rotate_left; (simp only [Act.put, zA, zZ, zS, i64_w, i32_w]; rfl)
            refine pure_ (i := 3) (N := some 140) (v := ?_) (a' := ?_) (zF 18 15) rfl rfl (any_of HT_.out (by kernel_rfl)) (fun _ _ _ h => h) (Or.inl ⟨by rfl, ?_⟩) ?_ ?_
            rotate_left; (intro w'; go_simp; with_reducible rfl); rotate_left; (simp only [Act.put, zA, zZ, zS, i64_w, i32_w]; rfl)
            refine pure_ (i := 5) (N := some 142) (v := ?_) (a' := ?_) (zF 18 47) rfl rfl (any_of HT_.out (by kernel_rfl)) (fun _ _ _ h => h) (Or.inl ⟨by rfl, ?_⟩) ?_ ?_
            rotate_left; (intro w'; go_simp; with_reducible rfl); rotate_left; (simp only [Act.put, zA, zZ, zS, i64_w, i32_w]; rfl)
            refine pure_ (i := 6) (N := some 143) (v := ?_) (a' := ?_) (zF 18 111) rfl rfl (any_of HT_.out (by kernel_rfl)) (fun _ _ _ h => h) (Or.inl ⟨by rfl, ?_⟩) ?_ ?_
            rotate_left; (intro w'; go_simp; with_reducible rfl); rotate_left; (simp only [Act.put, zA, zZ, zS, i64_w, i32_w]; rfl)
            refine pure_ (i := 7) (N := some 144) (v := ?_) (a' := ?_) (zF 18 239) rfl rfl (any_of HT_.out (by kernel_rfl)) (fun _ _ _ h => h) (Or.inl ⟨by rfl, ?_⟩) ?_ ?_
            rotate_left; (intro w'; go_simp; with_reducible rfl); rotate_left; (simp only [Act.put, zA, zZ, zS, i64_w, i32_w]; rfl)
            refine pure_ (i := 9) (N := some 146) (v := ?_) (a' := ?_) (zF 18 751) rfl rfl (any_of HT_.out (by kernel_rfl)) (fun _ _ _ h => h) (Or.inl ⟨by rfl, ?_⟩) ?_ ?_
            rotate_left; (intro w'; go_simp; with_reducible rfl); rotate_left; (simp only [Act.put, zA, zZ, zS, i64_w, i32_w]; rfl)
            refine pure_ (i := 11) (N := some 148) (v := ?_) (a' := ?_) (zF 18 2799) rfl rfl (any_of HT_.out (by kernel_rfl)) (fun _ _ _ h => h) (Or.inl ⟨by rfl, ?_⟩) ?_ ?_
            rotate_left; (intro w'; go_simp; with_reducible rfl); rotate_left; (simp only [Act.put, zA, zZ, zS, i64_w, i32_w]; rfl)
            refine take_ (i := 4) (N := some 141) (v := ?_) (a' := ?_) (zF 18 2815) rfl rfl (take_ofW HT_.out HW_.out (by kernel_rfl)) (fun _ _ _ h => h) (Or.inl ⟨by rfl, ?_⟩) hHeld ?_ ?_
            rotate_left; (rintro w' ⟨s0, s1⟩; go_simp; with_reducible rfl); rotate_left; (simp only [Act.put, zA, zZ, zS, i64_w, i32_w]; rfl)
            refine take_ (i := 8) (N := some 145) (v := ?_) (a' := ?_) (zF 18 3071) rfl rfl (take_ofW HT_.out HW_.out (by kernel_rfl)) (fun _ _ _ h => h) (Or.inl ⟨by rfl, ?_⟩) hHeld ?_ ?_
            rotate_left; (rintro w' ⟨s0, s1⟩; go_simp; with_reducible rfl); rotate_left; (simp only [Act.put, zA, zZ, zS, i64_w, i32_w]; rfl)
            refine one_ (i := 10) (N := some 147) (zF 18 4095) rfl rfl (one_of HT_.out (by kernel_rfl)) (by decide) (fun K hK => ?_)
            refine goes_ Tryd.func70 (by kernel_rfl) rfl #[.pointer (some ⟨gm, 0, none⟩)] (by rfl) rfl rfl (by (try simp only [List.map_toArray, List.map_cons, List.map_nil]); first | done | rfl | (simp [Act.eval, *]; done)) ?_
            refine (counted_ B w0 _ gm gq n T D ⟨ps, da, pt, k2, c2, 5⟩ vd vp ve Ha.out HC.out).mono ?_
            rintro e wc_ ⟨Ac, lc, cc, rfl, hrc, hbc⟩
            refine ⟨_, rfl, ?_⟩
            have Hb := Aside0.mk (Ha.out.on hbc)
            have HCT := Aside0.mk (Ha.out.fresh rfl hrc)
            have HDC := Aside0.mk (Kd.R_below HDT.out hbc)
            clear hrc hbc HDT Ha
            have HDT := HDC
            clear HDC
            refine hK.out _ _ ⟨Hb.out.c8, Hb.out.c4⟩ (fun hHeld => ?_)
            clear hK K
            refine norm_ (a' := ?_) ?_ ?_
            rotate_left
            · show Act.put _ (some 147) _ = _
              simp only [Act.put, zA, zZ, zS, i64_w, i32_w]
              rfl
            refine pure_ (i := 12) (N := some 149) (v := ?_) (a' := ?_) (zF 18 8191) rfl rfl (any_of HT_.out (by kernel_rfl)) (fun _ _ _ h => h) (Or.inl ⟨by rfl, ?_⟩) ?_ ?_
            rotate_left; (intro w'; go_simp; with_reducible rfl); rotate_left; (simp only [Act.put, zA, zZ, zS, i64_w, i32_w]; rfl)
            refine one_ (i := 13) (N := some 150) (zF 18 16383) rfl rfl (one_of HT_.out (by kernel_rfl)) (by decide) (fun K hK => ?_)
            refine value_ (w1 := ?_) (v := ?_) (by rfl) rfl ?_ ?_
            rotate_left 2
            · go_simp
              constructor
              · rfl
              · rfl
            refine hK.out _ _ ⟨(Hb.out.on (below_alloc (Below.refl _ _) _)).c8, (Hb.out.on (below_alloc (Below.refl _ _) _)).c4⟩ (fun hHeld => ?_)
            clear hK K
            refine norm_ (a' := ?_) ?_ ?_
            rotate_left
            · show Act.put _ (some 150) _ = _
              simp only [Act.put, zA, zZ, zS, i64_w, i32_w]
              rfl
            refine one_ (i := 14) (N := some 151) (zF 18 32767) rfl rfl (one_of HT_.out (by kernel_rfl)) (by decide) (fun K hK => ?_)
            obtain ⟨xe, hel, her, heh⟩ := Hb.out.re
            have HEL := Aside0.mk hel
            have HER := Aside0.mk her
            have HEH := Aside0.mk heh
            clear hel her heh
            refine Kd.R_append_step (Kd.raw 6) (w0 := _) B (by rfl) (.tmp 141) (.tmp 150) 38 71 (.agg #[.int .i64 0, .int .i64 0, .int .u8 0, .int .i64 0, .slice none 0 0, .slice none 0 0]) 80 rfl Tryd.underlying38 info71 rfl (by decide) (by omega) ve.v xe [.int .i64 4, .int .i64 0, .int .u8 0, .int .i64 c2, .slice Ac lc cc, .slice A4 da.length c4] [.int .i64 4, .int .i64 0, .int .u8 0, .int .i64 c2, .slice Ac lc cc, .slice A4 da.length c4] (fun _ => True) (fun _ => False) rfl rfl ?aP (fun _ hk => hk.elim) (fun _ _ => trivial) HER.out (Below.refl _ _) Hb.out.lt (by have := HEL.out; have := HBG.out; omega) ?_
            (case aP => exact ⟨rfl, rfl, fun u hu => by simp at hu; rcases hu with rfl | rfl | rfl | rfl | rfl | rfl <;> rfl⟩)
            intro v1 wz ho hb hg hat
            have HG := Aside0.mk hg
            have HO := Aside0.mk ho
            have HBB := Aside0.mk hb
            clear ho hb hg hat
            obtain ⟨A1, c1, e1⟩ : ∃ A c, v1 = .slice A (xe.length + 1) c := slice_snoc HO.out
            subst e1
            have k8 := (Hb.out.cell_grown HG.out (Hb.out.fm rfl (by decide) HER.out) 8).trans (show _ = some ve.v from rfl)
            have k4 := (Hb.out.cell_grown HG.out (Hb.out.fm rfl (by decide) HER.out) 4).trans (show _ = some (.int .i64 c2) from rfl)
            have j8 := Hb.out.free_grown HG.out (Hb.out.fm rfl (by decide) HER.out) 8
            refine hK.out _ _ ⟨k8, k4⟩ (fun hHeld => ?_)
            clear hK K
            refine norm_ (a' := ?_) ?_ ?_
            rotate_left
            · show Act.put _ (some 151) _ = _
              simp only [Act.put, zA, zZ, zS, i64_w, i32_w]
              rfl
            refine pure_ (i := 15) (N := some 152) (v := ?_) (a' := ?_) (zF 18 65535) rfl rfl (any_of HT_.out (by kernel_rfl)) (fun _ _ _ h => h) (Or.inl ⟨by rfl, ?_⟩) ?_ ?_
            rotate_left; (intro w'; go_simp; with_reducible rfl); rotate_left; (simp only [Act.put, zA, zZ, zS, i64_w, i32_w]; rfl)
            refine pure_ (i := 16) (N := some 153) (v := ?_) (a' := ?_) (zF 18 131071) rfl rfl (any_of HT_.out (by kernel_rfl)) (fun _ _ _ h => h) (Or.inl ⟨by rfl, ?_⟩) ?_ ?_
            rotate_left; (intro w'; go_simp; with_reducible rfl); rotate_left; (simp only [Act.put, zA, zZ, zS, i64_w, i32_w]; rfl)
            refine last_ (i := 17) (N := none) (zF 18 262143) rfl rfl (one_of HT_.out (by kernel_rfl)) (by decide) (fun K hK => ?_)
            refine skip_ (w1 := ?_) (by rfl) rfl ?_ ?_
            rotate_left
            · go_simp
              with_reducible rfl
            refine hK.out _ _ ?_
            clear hK K
            refine done_ (done_of HT_.out (by kernel_rfl)) ?_
            clear hHeld
            go_wp2
            go_end0
            refine ⟨rfl, .slice A1 (xe.length + 1) c1, ?_⟩
            rw [sdisp_out n ⟨ps, da, pt, cnt, cmd, 5⟩ b k2 c2 (by have h_ := HK2.out; rw [HTQ.out] at h_; exact h_) HC2.out (by show ¬ ((5 : Int) = 1 ∨ (5 : Int) = 2 ∨ (5 : Int) = 3 ∨ (5 : Int) = 8 ∨ (5 : Int) = 9); decide)]
            exact Hb.out.put_e HEL.out HER.out HEH.out (show Ev1 _ _ _ _ ⟨4, 0, 0, c2, ps.take k2, da⟩ from ⟨_, _, rfl, HCT.out, HDT.out⟩) HO.out HBB.out HG.out
          · clear hl hh
            go_upto_region 19 with (fail)
            clear x2
            refine start_ (n := 18) (S := (fun w' => w'.cell? ⟨gm, 8, none⟩ = some ve.v ∧ w'.cell? ⟨gm, 4, none⟩ = some (.int .i64 c2))) (ds := [17]) #[false, false, false, false, false, false, false, false, false, false, false, false, false, false, false, false, false, false] (by kernel_rfl) rfl rfl ⟨H9.out.c8, H9.out.c4⟩ (fun hHeld => ?_)
            refine with_tabW e19_tab e19_bits (fun HT_ HW_ => ?_)
            have Ha := Aside0.mk (show MV B w0 w9.drew gm gq n D T ⟨ps, da, pt, k2, c2, 6⟩ vd vp ve from H9.out.drew)
            have HDT := Aside0.mk (show Kd.R (Kd.int .u8) 5 w9.drew B (okE gq vd vp) (.slice A4 da.length c4) da from Kd.R_drew HDAT.out)
            clear HDAT
            generalize w9.drew = wy at Ha HDT hHeld ⊢
            refine pure_ (i := 0) (N := some 137) (v := ?_) (a' := ?_) (zF 18 1) rfl rfl (any_of HT_.out (by kernel_rfl)) (fun _ _ _ h => h) (Or.inl ⟨by rfl, ?_⟩) ?_ ?_
            rotate_left; (intro w'; go_simp; with_reducible rfl); rotate_left; (simp only [Act.put, zA, zZ, zS, i64_w, i32_w]; rfl)
            refine pure_ (i := 1) (N := some 138) (v := ?_) (a' := ?_) (zF 18 3) rfl rfl (any_of HT_.out (by kernel_rfl)) (fun _ _ _ h => h) (Or.inl ⟨by rfl, ?_⟩) ?_ ?_
            rotate_left; (intro w'; go_simp; with_reducible rfl); rotate_left; (simp only [Act.put, zA, zZ, zS, i64_w, i32_w]; rfl)
            refine pure_ (i := 2) (N := some 139) (v := ?_) (a' := ?_) (zF 18 7) rfl rfl (any_of HT_.out (by kernel_rfl)) (fun _ _ _ h => h) (Or.inl ⟨by rfl, ?_⟩) ?_ ?_
            rotate_left; (intro w'; go_simp; with_reducible rfl); rotate_left; (simp only [Act.put, zA, zZ, zS, i64_w, i32_w]; rfl)
            refine pure_ (i := 3) (N := some 140) (v := ?_) (a' := ?_) (zF 18 15) rfl rfl (any_of HT_.out (by kernel_rfl)) (fun _ _ _ h => h) (Or.inl ⟨by rfl, ?_⟩) ?_ ?_
            rotate_left; (intro w'; go_simp; with_reducible rfl); rotate_left; (simp only [Act.put, zA, zZ, zS, i64_w, i32_w]; rfl)
            refine pure_ (i := 5) (N := some 142) (v := ?_) (a' := ?_) (zF 18 47) rfl rfl (any_of HT_.out (by kernel_rfl)) (fun _ _ _ h => h) (Or.inl ⟨by rfl, ?_⟩) ?_ ?_
            rotate_left; (intro w'; go_simp; with_reducible rfl); rotate_left; (simp only [Act.put, zA, zZ, zS, i64_w, i32_w]; rfl)
            refine pure_ (i := 6) (N := some 143) (v := ?_) (a' := ?_) (zF 18 111) rfl rfl (any_of HT_.out (by kernel_rfl)) (fun _ _ _ h => h) (Or.inl ⟨by rfl, ?_⟩) ?_ ?_
            rotate_left; (intro w'; go_simp; with_reducible rfl); rotate_left; (simp only [Act.put, zA, zZ, zS, i64_w, i32_w]; rfl)
            refine pure_ (i := 7) (N := some 144) (v := ?_) (a' := ?_) (zF 18 239) rfl rfl (any_of HT_.out (by kernel_rfl)) (fun _ _ _ h => h) (Or.inl ⟨by rfl, ?_⟩) ?_ ?_
            rotate_left; (intro w'; go_simp; with_reducible rfl); rotate_left; (simp only [Act.put, zA, zZ, zS, i64_w, i32_w]; rfl)
            refine pure_ (i := 9) (N := some 146) (v := ?_) (a' := ?_) (zF 18 751) rfl rfl (any_of HT_.out (by kernel_rfl)) (fun _ _ _ h => h) (Or.inl ⟨by rfl, ?_⟩) ?_ ?_
            rotate_left; (intro w'; go_simp; with_reducible rfl); rotate_left; (simp only [Act.put, zA, zZ, zS, i64_w, i32_w]; rfl)
            refine pure_ (i := 11) (N := some 148) (v := ?_) (a' := ?_) (zF 18 2799) rfl rfl (any_of HT_.out (by kernel_rfl)) (fun _ _ _ h => h) (Or.inl ⟨by rfl, ?_⟩) ?_ ?_
            rotate_left; (intro w'; go_simp; with_reducible rfl); rotate_left; (simp only [Act.put, zA, zZ, zS, i64_w, i32_w]; rfl)
            refine take_ (i := 4) (N := some 141) (v := ?_) (a' := ?_) (zF 18 2815) rfl rfl (take_ofW HT_.out HW_.out (by kernel_rfl)) (fun _ _ _ h => h) (Or.inl ⟨by rfl, ?_⟩) hHeld ?_ ?_
            rotate_left; (rintro w' ⟨s0, s1⟩; go_simp; with_reducible rfl); rotate_left; (simp only [Act.put, zA, zZ, zS, i64_w, i32_w]; rfl)
            refine take_ (i := 8) (N := some 145) (v := ?_) (a' := ?_) (zF 18 3071) rfl rfl (take_ofW HT_.out HW_.out (by kernel_rfl)) (fun _ _ _ h => h) (Or.inl ⟨by rfl, ?_⟩) hHeld ?_ ?_
            rotate_left; (rintro w' ⟨s0, s1⟩; go_simp; with_reducible rfl); rotate_left; (simp only [Act.put, zA, zZ, zS, i64_w, i32_w]; rfl)
            refine one_ (i := 10) (N := some 147) (zF 18 4095) rfl rfl (one_of HT_.out (by kernel_rfl)) (by decide) (fun K hK => ?_)
            refine goes_ Tryd.func70 (by kernel_rfl) rfl #[.pointer (some ⟨gm, 0, none⟩)] (by rfl) rfl rfl (by (try simp only [List.map_toArray, List.map_cons, List.map_nil]); first | done | rfl | (simp [Act.eval, *]; done)) ?_
            refine (counted_ B w0 _ gm gq n T D ⟨ps, da, pt, k2, c2, 6⟩ vd vp ve Ha.out HC.out).mono ?_
            rintro e wc_ ⟨Ac, lc, cc, rfl, hrc, hbc⟩
            refine ⟨_, rfl, ?_⟩
            have Hb := Aside0.mk (Ha.out.on hbc)
            have HCT := Aside0.mk (Ha.out.fresh rfl hrc)
            have HDC := Aside0.mk (Kd.R_below HDT.out hbc)
            clear hrc hbc HDT Ha
            have HDT := HDC
            clear HDC
            refine hK.out _ _ ⟨Hb.out.c8, Hb.out.c4⟩ (fun hHeld => ?_)
            clear hK K
            refine norm_ (a' := ?_) ?_ ?_
            rotate_left
            · show Act.put _ (some 147) _ = _
              simp only [Act.put, zA, zZ, zS, i64_w, i32_w]
              rfl
            refine pure_ (i := 12) (N := some 149) (v := ?_) (a' := ?_) (zF 18 8191) rfl rfl (any_of HT_.out (by kernel_rfl)) (fun _ _ _ h => h) (Or.inl ⟨by rfl, ?_⟩) ?_ ?_
            rotate_left; (intro w'; go_simp; with_reducible rfl); rotate_left; (simp only [Act.put, zA, zZ, zS, i64_w, i32_w]; rfl)
            refine one_ (i := 13) (N := some 150) (zF 18 16383) rfl rfl (one_of HT_.out (by kernel_rfl)) (by decide) (fun K hK => ?_)
            refine value_ (w1 := ?_) (v := ?_) (by rfl) rfl ?_ ?_
            rotate_left 2
            · go_simp
              constructor
              · rfl
              · rfl
            refine hK.out _ _ ⟨(Hb.out.on (below_alloc (Below.refl _ _) _)).c8, (Hb.out.on (below_alloc (Below.refl _ _) _)).c4⟩ (fun hHeld => ?_)
            clear hK K
            refine norm_ (a' := ?_) ?_ ?_
            rotate_left
            · show Act.put _ (some 150) _ = _
              simp only [Act.put, zA, zZ, zS, i64_w, i32_w]
              rfl
            refine one_ (i := 14) (N := some 151) (zF 18 32767) rfl rfl (one_of HT_.out (by kernel_rfl)) (by decide) (fun K hK => ?_)
            obtain ⟨xe, hel, her, heh⟩ := Hb.out.re
            have HEL := Aside0.mk hel
            have HER := Aside0.mk her
            have HEH := Aside0.mk heh
            clear hel her heh
            refine Kd.R_append_step (Kd.raw 6) (w0 := _) B (by rfl) (.tmp 141) (.tmp 150) 38 71 (.agg #[.int .i64 0, .int .i64 0, .int .u8 0, .int .i64 0, .slice none 0 0, .slice none 0 0]) 80 rfl Tryd.underlying38 info71 rfl (by decide) (by omega) ve.v xe [.int .i64 4, .int .i64 0, .int .u8 0, .int .i64 c2, .slice Ac lc cc, .slice A4 da.length c4] [.int .i64 4, .int .i64 0, .int .u8 0, .int .i64 c2, .slice Ac lc cc, .slice A4 da.length c4] (fun _ => True) (fun _ => False) rfl rfl ?aP (fun _ hk => hk.elim) (fun _ _ => trivial) HER.out (Below.refl _ _) Hb.out.lt (by have := HEL.out; have := HBG.out; omega) ?_
            (case aP => exact ⟨rfl, rfl, fun u hu => by simp at hu; rcases hu with rfl | rfl | rfl | rfl | rfl | rfl <;> rfl⟩)
            intro v1 wz ho hb hg hat
            have HG := Aside0.mk hg
            have HO := Aside0.mk ho
            have HBB := Aside0.mk hb
            clear ho hb hg hat
            obtain ⟨A1, c1, e1⟩ : ∃ A c, v1 = .slice A (xe.length + 1) c := slice_snoc HO.out
            subst e1
            have k8 := (Hb.out.cell_grown HG.out (Hb.out.fm rfl (by decide) HER.out) 8).trans (show _ = some ve.v from rfl)
            have k4 := (Hb.out.cell_grown HG.out (Hb.out.fm rfl (by decide) HER.out) 4).trans (show _ = some (.int .i64 c2) from rfl)
            have j8 := Hb.out.free_grown HG.out (Hb.out.fm rfl (by decide) HER.out) 8
            refine hK.out _ _ ⟨k8, k4⟩ (fun hHeld => ?_)
            clear hK K
            refine norm_ (a' := ?_) ?_ ?_
            rotate_left
            · show Act.put _ (some 151) _ = _
              simp only [Act.put, zA, zZ, zS, i64_w, i32_w]
              rfl
            refine pure_ (i := 15) (N := some 152) (v := ?_) (a' := ?_) (zF 18 65535) rfl rfl (any_of HT_.out (by kernel_rfl)) (fun _ _ _ h => h) (Or.inl ⟨by rfl, ?_⟩) ?_ ?_
            rotate_left; (intro w'; go_simp; with_reducible rfl); rotate_left; (simp only [Act.put, zA, zZ, zS, i64_w, i32_w]; rfl)
            refine pure_ (i := 16) (N := some 153) (v := ?_) (a' := ?_) (zF 18 131071) rfl rfl (any_of HT_.out (by kernel_rfl)) (fun _ _ _ h => h) (Or.inl ⟨by rfl, ?_⟩) ?_ ?_
            rotate_left; (intro w'; go_simp; with_reducible rfl); rotate_left; (simp only [Act.put, zA, zZ, zS, i64_w, i32_w]; rfl)
            refine last_ (i := 17) (N := none) (zF 18 262143) rfl rfl (one_of HT_.out (by kernel_rfl)) (by decide) (fun K hK => ?_)
            refine skip_ (w1 := ?_) (by rfl) rfl ?_ ?_
            rotate_left
            · go_simp
              with_reducible rfl
            refine hK.out _ _ ?_
            clear hK K
            refine done_ (done_of HT_.out (by kernel_rfl)) ?_
            clear hHeld
            go_wp2
            go_end0
            refine ⟨rfl, .slice A1 (xe.length + 1) c1, ?_⟩
            rw [sdisp_out n ⟨ps, da, pt, cnt, cmd, 6⟩ b k2 c2 (by have h_ := HK2.out; rw [HTQ.out] at h_; exact h_) HC2.out (by show ¬ ((6 : Int) = 1 ∨ (6 : Int) = 2 ∨ (6 : Int) = 3 ∨ (6 : Int) = 8 ∨ (6 : Int) = 9); decide)]
            exact Hb.out.put_e HEL.out HER.out HEH.out (show Ev1 _ _ _ _ ⟨4, 0, 0, c2, ps.take k2, da⟩ from ⟨_, _, rfl, HCT.out, HDT.out⟩) HO.out HBB.out HG.out
          · clear hl hh
            go_upto_region 19 with (fail)
            clear x2
            refine start_ (n := 18) (S := (fun w' => w'.cell? ⟨gm, 8, none⟩ = some ve.v ∧ w'.cell? ⟨gm, 4, none⟩ = some (.int .i64 c2))) (ds := [17]) #[false, false, false, false, false, false, false, false, false, false, false, false, false, false, false, false, false, false] (by kernel_rfl) rfl rfl ⟨H9.out.c8, H9.out.c4⟩ (fun hHeld => ?_)
            refine with_tabW e19_tab e19_bits (fun HT_ HW_ => ?_)
            have Ha := Aside0.mk (show MV B w0 w9.drew gm gq n D T ⟨ps, da, pt, k2, c2, 7⟩ vd vp ve from H9.out.drew)
            have HDT := Aside0.mk (show Kd.R (Kd.int .u8) 5 w9.drew B (okE gq vd vp) (.slice A4 da.length c4) da from Kd.R_drew HDAT.out)
            clear HDAT
            generalize w9.drew = wy at Ha HDT hHeld ⊢
            refine pure_ (i := 0) (N := some 137) (v := ?_) (a' := ?_) (zF 18 1) rfl rfl (any_of HT_.out (by kernel_rfl)) (fun _ _ _ h => h) (Or.inl ⟨by rfl, ?_⟩) ?_ ?_
            rotate_left; (intro w'; go_simp; with_reducible rfl); rotate_left; (simp only [Act.put, zA, zZ, zS, i64_w, i32_w]; rfl)
            refine pure_ (i := 1) (N := some 138) (v := ?_) (a' := ?_) (zF 18 3) rfl rfl (any_of HT_.out (by kernel_rfl)) (fun _ _ _ h => h) (Or.inl ⟨by rfl, ?_⟩) ?_ ?_
            rotate_left; (intro w'; go_simp; with_reducible rfl); rotate_left; (simp only [Act.put, zA, zZ, zS, i64_w, i32_w]; rfl)
            refine pure_ (i := 2) (N := some 139) (v := ?_) (a' := ?_) (zF 18 7) rfl rfl (any_of HT_.out (by kernel_rfl)) (fun _ _ _ h => h) (Or.inl ⟨by rfl, ?_⟩) ?_ ?_
            rotate_left; (intro w'; go_simp; with_reducible rfl); rotate_left; (simp only [Act.put, zA, zZ, zS, i64_w, i32_w]; rfl)
            refine pure_ (i := 3) (N := some 140) (v := ?_) (a' := ?_) (zF 18 15) rfl rfl (any_of HT_.out (by kernel_rfl)) (fun _ _ _ h => h) (Or.inl ⟨by rfl, ?_⟩) ?_ ?_
            rotate_left; (intro w'; go_simp; with_reducible rfl); rotate_left; (simp only [Act.put, zA, zZ, zS, i64_w, i32_w]; rfl)
            refine pure_ (i := 5) (N := some 142) (v := ?_) (a' := ?_) (zF 18 47) rfl rfl (any_of HT_.out (by kernel_rfl)) (fun _ _ _ h => h) (Or.inl ⟨by rfl, ?_⟩) ?_ ?_
            rotate_left; (intro w'; go_simp; with_reducible rfl); rotate_left; (simp only [Act.put, zA, zZ, zS, i64_w, i32_w]; rfl)
            refine pure_ (i := 6) (N := some 143) (v := ?_) (a' := ?_) (zF 18 111) rfl rfl (any_of HT_.out (by kernel_rfl)) (fun _ _ _ h => h) (Or.inl ⟨by rfl, ?_⟩) ?_ ?_
            rotate_left; (intro w'; go_simp; with_reducible rfl); rotate_left; (simp only [Act.put, zA, zZ, zS, i64_w, i32_w]; rfl)
            refine pure_ (i := 7) (N := some 144) (v := ?_) (a' := ?_) (zF 18 239) rfl rfl (any_of HT_.out (by kernel_rfl)) (fun _ _ _ h => h) (Or.inl ⟨by rfl, ?_⟩) ?_ ?_
            rotate_left; (intro w'; go_simp; with_reducible rfl); rotate_left; (simp only [Act.put, zA, zZ, zS, i64_w, i32_w]; rfl)
            refine pure_ (i := 9) (N := some 146) (v := ?_) (a' := ?_) (zF 18 751) rfl rfl (any_of HT_.out (by kernel_rfl)) (fun _ _ _ h => h) (Or.inl ⟨by rfl, ?_⟩) ?_ ?_
            rotate_left; (intro w'; go_simp; with_reducible rfl); rotate_left; (simp only [Act.put, zA, zZ, zS, i64_w, i32_w]; rfl)
            refine pure_ (i := 11) (N := some 148) (v := ?_) (a' := ?_) (zF 18 2799) rfl rfl (any_of HT_.out (by kernel_rfl)) (fun _ _ _ h => h) (Or.inl ⟨by rfl, ?_⟩) ?_ ?_
            rotate_left; (intro w'; go_simp; with_reducible rfl); rotate_left; (simp only [Act.put, zA, zZ, zS, i64_w, i32_w]; rfl)
            refine take_ (i := 4) (N := some 141) (v := ?_) (a' := ?_) (zF 18 2815) rfl rfl (take_ofW HT_.out HW_.out (by kernel_rfl)) (fun _ _ _ h => h) (Or.inl ⟨by rfl, ?_⟩) hHeld ?_ ?_
            rotate_left; (rintro w' ⟨s0, s1⟩; go_simp; with_reducible rfl); rotate_left; (simp only [Act.put, zA, zZ, zS, i64_w, i32_w]; rfl)
            refine take_ (i := 8) (N := some 145) (v := ?_) (a' := ?_) (zF 18 3071) rfl rfl (take_ofW HT_.out HW_.out (by kernel_rfl)) (fun _ _ _ h => h) (Or.inl ⟨by rfl, ?_⟩) hHeld ?_ ?_
            rotate_left; (rintro w' ⟨s0, s1⟩; go_simp; with_reducible rfl); rotate_left; (simp only [Act.put, zA, zZ, zS, i64_w, i32_w]; rfl)
            refine one_ (i := 10) (N := some 147) (zF 18 4095) rfl rfl (one_of HT_.out (by kernel_rfl)) (by decide) (fun K hK => ?_)
            refine goes_ Tryd.func70 (by kernel_rfl) rfl #[.pointer (some ⟨gm, 0, none⟩)] (by rfl) rfl rfl (by (try simp only [List.map_toArray, List.map_cons, List.map_nil]); first | done | rfl | (simp [Act.eval, *]; done)) ?_
            refine (counted_ B w0 _ gm gq n T D ⟨ps, da, pt, k2, c2, 7⟩ vd vp ve Ha.out HC.out).mono ?_
            rintro e wc_ ⟨Ac, lc, cc, rfl, hrc, hbc⟩
            refine ⟨_, rfl, ?_⟩
            have Hb := Aside0.mk (Ha.out.on hbc)
            have HCT := Aside0.mk (Ha.out.fresh rfl hrc)
            have HDC := Aside0.mk (Kd.R_below HDT.out hbc)
            clear hrc hbc HDT Ha
            have HDT := HDC
            clear HDC
            refine hK.out _ _ ⟨Hb.out.c8, Hb.out.c4⟩ (fun hHeld => ?_)
            clear hK K
            refine norm_ (a' := ?_) ?_ ?_
            rotate_left
            · show Act.put _ (some 147) _ = _
              simp only [Act.put, zA, zZ, zS, i64_w, i32_w]
              rfl
            refine pure_ (i := 12) (N := some 149) (v := ?_) (a' := ?_) (zF 18 8191) rfl rfl (any_of HT_.out (by kernel_rfl)) (fun _ _ _ h => h) (Or.inl ⟨by rfl, ?_⟩) ?_ ?_
            rotate_left; (intro w'; go_simp; with_reducible rfl); rotate_left; (simp only [Act.put, zA, zZ, zS, i64_w, i32_w]; rfl)
            refine one_ (i := 13) (N := some 150) (zF 18 16383) rfl rfl (one_of HT_.out (by kernel_rfl)) (by decide) (fun K hK => ?_)
            refine value_ (w1 := ?_) (v := ?_) (by rfl) rfl ?_ ?_
            rotate_left 2
            · go_simp
              constructor
              · rfl
              · rfl
            refine hK.out _ _ ⟨(Hb.out.on (below_alloc (Below.refl _ _) _)).c8, (Hb.out.on (below_alloc (Below.refl _ _) _)).c4⟩ (fun hHeld => ?_)
            clear hK K
            refine norm_ (a' := ?_) ?_ ?_
            rotate_left
            · show Act.put _ (some 150) _ = _
              simp only [Act.put, zA, zZ, zS, i64_w, i32_w]
              rfl
            refine one_ (i := 14) (N := some 151) (zF 18 32767) rfl rfl (one_of HT_.out (by kernel_rfl)) (by decide) (fun K hK => ?_)
            obtain ⟨xe, hel, her, heh⟩ := Hb.out.re
            have HEL := Aside0.mk hel
            have HER := Aside0.mk her
            have HEH := Aside0.mk heh
            clear hel her heh
            refine Kd.R_append_step (Kd.raw 6) (w0 := _) B (by rfl) (.tmp 141) (.tmp 150) 38 71 (.agg #[.int .i64 0, .int .i64 0, .int .u8 0, .int .i64 0, .slice none 0 0, .slice none 0 0]) 80 rfl Tryd.underlying38 info71 rfl (by decide) (by omega) ve.v xe [.int .i64 4, .int .i64 0, .int .u8 0, .int .i64 c2, .slice Ac lc cc, .slice A4 da.length c4] [.int .i64 4, .int .i64 0, .int .u8 0, .int .i64 c2, .slice Ac lc cc, .slice A4 da.length c4] (fun _ => True) (fun _ => False) rfl rfl ?aP (fun _ hk => hk.elim) (fun _ _ => trivial) HER.out (Below.refl _ _) Hb.out.lt (by have := HEL.out; have := HBG.out; omega) ?_
            (case aP => exact ⟨rfl, rfl, fun u hu => by simp at hu; rcases hu with rfl | rfl | rfl | rfl | rfl | rfl <;> rfl⟩)
            intro v1 wz ho hb hg hat
            have HG := Aside0.mk hg
            have HO := Aside0.mk ho
            have HBB := Aside0.mk hb
            clear ho hb hg hat
            obtain ⟨A1, c1, e1⟩ : ∃ A c, v1 = .slice A (xe.length + 1) c := slice_snoc HO.out
            subst e1
            have k8 := (Hb.out.cell_grown HG.out (Hb.out.fm rfl (by decide) HER.out) 8).trans (show _ = some ve.v from rfl)
            have k4 := (Hb.out.cell_grown HG.out (Hb.out.fm rfl (by decide) HER.out) 4).trans (show _ = some (.int .i64 c2) from rfl)
            have j8 := Hb.out.free_grown HG.out (Hb.out.fm rfl (by decide) HER.out) 8
            refine hK.out _ _ ⟨k8, k4⟩ (fun hHeld => ?_)
            clear hK K
            refine norm_ (a' := ?_) ?_ ?_
            rotate_left
            · show Act.put _ (some 151) _ = _
              simp only [Act.put, zA, zZ, zS, i64_w, i32_w]
              rfl
            refine pure_ (i := 15) (N := some 152) (v := ?_) (a' := ?_) (zF 18 65535) rfl rfl (any_of HT_.out (by kernel_rfl)) (fun _ _ _ h => h) (Or.inl ⟨by rfl, ?_⟩) ?_ ?_
            rotate_left; (intro w'; go_simp; with_reducible rfl); rotate_left; (simp only [Act.put, zA, zZ, zS, i64_w, i32_w]; rfl)
            refine pure_ (i := 16) (N := some 153) (v := ?_) (a' := ?_) (zF 18 131071) rfl rfl (any_of HT_.out (by kernel_rfl)) (fun _ _ _ h => h) (Or.inl ⟨by rfl, ?_⟩) ?_ ?_
            rotate_left; (intro w'; go_simp; with_reducible rfl); rotate_left; (simp only [Act.put, zA, zZ, zS, i64_w, i32_w]; rfl)
            refine last_ (i := 17) (N := none) (zF 18 262143) rfl rfl (one_of HT_.out (by kernel_rfl)) (by decide) (fun K hK => ?_)
            refine skip_ (w1 := ?_) (by rfl) rfl ?_ ?_
            rotate_left
            · go_simp
              with_reducible rfl
            refine hK.out _ _ ?_
            clear hK K
            refine done_ (done_of HT_.out (by kernel_rfl)) ?_
            clear hHeld
            go_wp2
            go_end0
            refine ⟨rfl, .slice A1 (xe.length + 1) c1, ?_⟩
            rw [sdisp_out n ⟨ps, da, pt, cnt, cmd, 7⟩ b k2 c2 (by have h_ := HK2.out; rw [HTQ.out] at h_; exact h_) HC2.out (by show ¬ ((7 : Int) = 1 ∨ (7 : Int) = 2 ∨ (7 : Int) = 3 ∨ (7 : Int) = 8 ∨ (7 : Int) = 9); decide)]
            exact Hb.out.put_e HEL.out HER.out HEH.out (show Ev1 _ _ _ _ ⟨4, 0, 0, c2, ps.take k2, da⟩ from ⟨_, _, rfl, HCT.out, HDT.out⟩) HO.out HBB.out HG.out
          · clear hl hh
            have x4 := H9.out.c4
            have f4 := H9.out.free 4
            have H10 := Aside0.mk (show MV B w0 (w9.setCell ⟨gm, 4, none⟩ (.int .i64 (Go.bits .or .i64 c2 b))) gm gq n D T ⟨ps, da, pt, k2, Go.bits .or .i64 c2 b, 8⟩ vd vp ve from H9.out.set_cmd (Go.bits .or .i64 c2 b))
            replace HDAT := Aside0.mk (show Kd.R (Kd.int .u8) 5 (w9.setCell ⟨gm, 4, none⟩ (.int .i64 (Go.bits .or .i64 c2 b))) B (okE gq vd vp) (.slice A4 da.length c4) da from Kd.R_set HDAT.out H9.out.bm (by decide) 4 _)
            go_upto_region 14 with (fail)
            clear x4 f4 x2 H9
            generalize w9.setCell ⟨gm, 4, none⟩ (.int .i64 (Go.bits .or .i64 c2 b)) = w11 at H10 HDAT ⊢
            refine start_ (n := 15) (S := (fun w' => w'.cell? ⟨gm, 8, none⟩ = some ve.v ∧ w'.cell? ⟨gm, 4, none⟩ = some (.int .i64 (Go.bits .or .i64 c2 b)))) (ds := [14]) #[false, false, false, false, false, false, false, false, false, false, false, false, false, false, false] (by kernel_rfl) rfl rfl ⟨H10.out.c8, H10.out.c4⟩ (fun hHeld => ?_)
            refine with_tabW e14_tab e14_bits (fun HT_ HW_ => ?_)
            have Ha := Aside0.mk (show MV B w0 w11.drew gm gq n D T ⟨ps, da, pt, k2, Go.bits .or .i64 c2 b, 8⟩ vd vp ve from H10.out.drew)
            have HDT := Aside0.mk (show Kd.R (Kd.int .u8) 5 w11.drew B (okE gq vd vp) (.slice A4 da.length c4) da from Kd.R_drew HDAT.out)
            clear HDAT
            generalize w11.drew = wy at Ha HDT hHeld ⊢
            refine pure_ (i := 0) (N := some 118) (v := ?_) (a' := ?_) (zF 15 1) rfl rfl (any_of HT_.out (by kernel_rfl)) (fun _ _ _ h => h) (Or.inl ⟨by rfl, ?_⟩) ?_ ?_
            rotate_left; (intro w'; go_simp; with_reducible rfl); rotate_left; (simp only [Act.put, zA, zZ, zS, i64_w, i32_w]; rfl)
            refine pure_ (i := 1) (N := some 119) (v := ?_) (a' := ?_) (zF 15 3) rfl rfl (any_of HT_.out (by kernel_rfl)) (fun _ _ _ h => h) (Or.inl ⟨by rfl, ?_⟩) ?_ ?_
            rotate_left; (intro w'; go_simp; with_reducible rfl); rotate_left; (simp only [Act.put, zA, zZ, zS, i64_w, i32_w]; rfl)
            refine pure_ (i := 2) (N := some 120) (v := ?_) (a' := ?_) (zF 15 7) rfl rfl (any_of HT_.out (by kernel_rfl)) (fun _ _ _ h => h) (Or.inl ⟨by rfl, ?_⟩) ?_ ?_
            rotate_left; (intro w'; go_simp; with_reducible rfl); rotate_left; (simp only [Act.put, zA, zZ, zS, i64_w, i32_w]; rfl)
            refine pure_ (i := 3) (N := some 121) (v := ?_) (a' := ?_) (zF 15 15) rfl rfl (any_of HT_.out (by kernel_rfl)) (fun _ _ _ h => h) (Or.inl ⟨by rfl, ?_⟩) ?_ ?_
            rotate_left; (intro w'; go_simp; with_reducible rfl); rotate_left; (simp only [Act.put, zA, zZ, zS, i64_w, i32_w]; rfl)
            refine pure_ (i := 5) (N := some 123) (v := ?_) (a' := ?_) (zF 15 47) rfl rfl (any_of HT_.out (by kernel_rfl)) (fun _ _ _ h => h) (Or.inl ⟨by rfl, ?_⟩) ?_ ?_
            rotate_left; (intro w'; go_simp; with_reducible rfl); rotate_left; (simp only [Act.put, zA, zZ, zS, i64_w, i32_w]; rfl)
            refine pure_ (i := 6) (N := some 124) (v := ?_) (a' := ?_) (zF 15 111) rfl rfl (any_of HT_.out (by kernel_rfl)) (fun _ _ _ h => h) (Or.inl ⟨by rfl, ?_⟩) ?_ ?_
            rotate_left; (intro w'; go_simp; with_reducible rfl); rotate_left; (simp only [Act.put, zA, zZ, zS, i64_w, i32_w]; rfl)
            refine pure_ (i := 7) (N := some 125) (v := ?_) (a' := ?_) (zF 15 239) rfl rfl (any_of HT_.out (by kernel_rfl)) (fun _ _ _ h => h) (Or.inl ⟨by rfl, ?_⟩) ?_ ?_
            rotate_left; (intro w'; go_simp; with_reducible rfl); rotate_left; (simp only [Act.put, zA, zZ, zS, i64_w, i32_w]; rfl)
            refine take_ (i := 4) (N := some 122) (v := ?_) (a' := ?_) (zF 15 255) rfl rfl (take_ofW HT_.out HW_.out (by kernel_rfl)) (fun _ _ _ h => h) (Or.inl ⟨by rfl, ?_⟩) hHeld ?_ ?_
            rotate_left; (rintro w' ⟨s0, s1⟩; go_simp; with_reducible rfl); rotate_left; (simp only [Act.put, zA, zZ, zS, i64_w, i32_w]; rfl)
            refine take_ (i := 8) (N := some 126) (v := ?_) (a' := ?_) (zF 15 511) rfl rfl (take_ofW HT_.out HW_.out (by kernel_rfl)) (fun _ _ _ h => h) (Or.inl ⟨by rfl, ?_⟩) hHeld ?_ ?_
            rotate_left; (rintro w' ⟨s0, s1⟩; go_simp; with_reducible rfl); rotate_left; (simp only [Act.put, zA, zZ, zS, i64_w, i32_w]; rfl)
            refine pure_ (i := 9) (N := some 127) (v := ?_) (a' := ?_) (zF 15 1023) rfl rfl (any_of HT_.out (by kernel_rfl)) (fun _ _ _ h => h) (Or.inl ⟨by rfl, ?_⟩) ?_ ?_
            rotate_left; (intro w'; go_simp; with_reducible rfl); rotate_left; (simp only [Act.put, zA, zZ, zS, i64_w, i32_w]; rfl)
            refine one_ (i := 10) (N := some 128) (zF 15 2047) rfl rfl (one_of HT_.out (by kernel_rfl)) (by decide) (fun K hK => ?_)
            refine value_ (w1 := ?_) (v := ?_) (by rfl) rfl ?_ ?_
            rotate_left 2
            · go_simp
              constructor
              · rfl
              · rfl
            refine hK.out _ _ ⟨(Ha.out.on (below_alloc (Below.refl _ _) _)).c8, (Ha.out.on (below_alloc (Below.refl _ _) _)).c4⟩ (fun hHeld => ?_)
            clear hK K
            refine norm_ (a' := ?_) ?_ ?_
            rotate_left
            · show Act.put _ (some 128) _ = _
              simp only [Act.put, zA, zZ, zS, i64_w, i32_w]
              rfl
            refine one_ (i := 11) (N := some 129) (zF 15 4095) rfl rfl (one_of HT_.out (by kernel_rfl)) (by decide) (fun K hK => ?_)
            obtain ⟨xe, hel, her, heh⟩ := Ha.out.re
            have HEL := Aside0.mk hel
            have HER := Aside0.mk her
            have HEH := Aside0.mk heh
            clear hel her heh
            refine Kd.R_append_step (Kd.raw 6) (w0 := _) B (by rfl) (.tmp 122) (.tmp 128) 38 71 (.agg #[.int .i64 0, .int .i64 0, .int .u8 0, .int .i64 0, .slice none 0 0, .slice none 0 0]) 80 rfl Tryd.underlying38 info71 rfl (by decide) (by omega) ve.v xe [.int .i64 3, .int .i64 0, .int .u8 0, .int .i64 (Go.bits .or .i64 c2 b), .slice none 0 0, .slice none 0 0] [.int .i64 3, .int .i64 0, .int .u8 0, .int .i64 (Go.bits .or .i64 c2 b), .slice none 0 0, .slice none 0 0] (fun _ => True) (fun _ => False) rfl rfl ?aP (fun _ hk => hk.elim) (fun _ _ => trivial) HER.out (Below.refl _ _) Ha.out.lt (by have := HEL.out; have := HBG.out; omega) ?_
            (case aP => exact ⟨rfl, rfl, fun u hu => by simp at hu; rcases hu with rfl | rfl | rfl | rfl | rfl | rfl <;> rfl⟩)
            intro v1 wz ho hb hg hat
            have HG := Aside0.mk hg
            have HO := Aside0.mk ho
            have HBB := Aside0.mk hb
            clear ho hb hg hat
            obtain ⟨A1, c1, e1⟩ : ∃ A c, v1 = .slice A (xe.length + 1) c := slice_snoc HO.out
            subst e1
            have k8 := (Ha.out.cell_grown HG.out (Ha.out.fm rfl (by decide) HER.out) 8).trans (show _ = some ve.v from rfl)
            have k4 := (Ha.out.cell_grown HG.out (Ha.out.fm rfl (by decide) HER.out) 4).trans (show _ = some (.int .i64 (Go.bits .or .i64 c2 b)) from rfl)
            have j8 := Ha.out.free_grown HG.out (Ha.out.fm rfl (by decide) HER.out) 8
            refine hK.out _ _ ⟨k8, k4⟩ (fun hHeld => ?_)
            clear hK K
            refine norm_ (a' := ?_) ?_ ?_
            rotate_left
            · show Act.put _ (some 129) _ = _
              simp only [Act.put, zA, zZ, zS, i64_w, i32_w]
              rfl
            refine pure_ (i := 12) (N := some 130) (v := ?_) (a' := ?_) (zF 15 8191) rfl rfl (any_of HT_.out (by kernel_rfl)) (fun _ _ _ h => h) (Or.inl ⟨by rfl, ?_⟩) ?_ ?_
            rotate_left; (intro w'; go_simp; with_reducible rfl); rotate_left; (simp only [Act.put, zA, zZ, zS, i64_w, i32_w]; rfl)
            refine pure_ (i := 13) (N := some 131) (v := ?_) (a' := ?_) (zF 15 16383) rfl rfl (any_of HT_.out (by kernel_rfl)) (fun _ _ _ h => h) (Or.inl ⟨by rfl, ?_⟩) ?_ ?_
            rotate_left; (intro w'; go_simp; with_reducible rfl); rotate_left; (simp only [Act.put, zA, zZ, zS, i64_w, i32_w]; rfl)
            refine last_ (i := 14) (N := none) (zF 15 32767) rfl rfl (one_of HT_.out (by kernel_rfl)) (by decide) (fun K hK => ?_)
            refine skip_ (w1 := ?_) (by rfl) rfl ?_ ?_
            rotate_left
            · go_simp
              with_reducible rfl
            refine hK.out _ _ ?_
            clear hK K
            refine done_ (done_of HT_.out (by kernel_rfl)) ?_
            clear hHeld
            go_wp2
            go_end0
            refine ⟨rfl, .slice A1 (xe.length + 1) c1, ?_⟩
            rw [sdisp_in n ⟨ps, da, pt, cnt, cmd, 8⟩ b k2 c2 (by have h_ := HK2.out; rw [HTQ.out] at h_; exact h_) HC2.out (.inr (.inr (.inr (.inl rfl))))]
            exact Ha.out.put_e HEL.out HER.out HEH.out (Ev1.plain _ _ _ _ _ _ _) HO.out HBB.out HG.out
          · clear hl hh
            have x4 := H9.out.c4
            have f4 := H9.out.free 4
            have H10 := Aside0.mk (show MV B w0 (w9.setCell ⟨gm, 4, none⟩ (.int .i64 (Go.bits .or .i64 c2 b))) gm gq n D T ⟨ps, da, pt, k2, Go.bits .or .i64 c2 b, 9⟩ vd vp ve from H9.out.set_cmd (Go.bits .or .i64 c2 b))
            replace HDAT := Aside0.mk (show Kd.R (Kd.int .u8) 5 (w9.setCell ⟨gm, 4, none⟩ (.int .i64 (Go.bits .or .i64 c2 b))) B (okE gq vd vp) (.slice A4 da.length c4) da from Kd.R_set HDAT.out H9.out.bm (by decide) 4 _)
            go_upto_region 14 with (fail)
            clear x4 f4 x2 H9
            generalize w9.setCell ⟨gm, 4, none⟩ (.int .i64 (Go.bits .or .i64 c2 b)) = w11 at H10 HDAT ⊢
            refine start_ (n := 15) (S := (fun w' => w'.cell? ⟨gm, 8, none⟩ = some ve.v ∧ w'.cell? ⟨gm, 4, none⟩ = some (.int .i64 (Go.bits .or .i64 c2 b)))) (ds := [14]) #[false, false, false, false, false, false, false, false, false, false, false, false, false, false, false] (by kernel_rfl) rfl rfl ⟨H10.out.c8, H10.out.c4⟩ (fun hHeld => ?_)
            refine with_tabW e14_tab e14_bits (fun HT_ HW_ => ?_)
            have Ha := Aside0.mk (show MV B w0 w11.drew gm gq n D T ⟨ps, da, pt, k2, Go.bits .or .i64 c2 b, 9⟩ vd vp ve from H10.out.drew)
            have HDT := Aside0.mk (show Kd.R (Kd.int .u8) 5 w11.drew B (okE gq vd vp) (.slice A4 da.length c4) da from Kd.R_drew HDAT.out)
            clear HDAT
            generalize w11.drew = wy at Ha HDT hHeld ⊢
            refine pure_ (i := 0) (N := some 118) (v := ?_) (a' := ?_) (zF 15 1) rfl rfl (any_of HT_.out (by kernel_rfl)) (fun _ _ _ h => h) (Or.inl ⟨by rfl, ?_⟩) ?_ ?_
            rotate_left; (intro w'; go_simp; with_reducible rfl); rotate_left; (simp only [Act.put, zA, zZ, zS, i64_w, i32_w]; rfl)
            refine pure_ (i := 1) (N := some 119) (v := ?_) (a' := ?_) (zF 15 3) rfl rfl (any_of HT_.out (by kernel_rfl)) (fun _ _ _ h => h) (Or.inl ⟨by rfl, ?_⟩) ?_ ?_
            rotate_left; (intro w'; go_simp; with_reducible rfl); rotate_left; (simp only [Act.put, zA, zZ, zS, i64_w, i32_w]; rfl)
            refine pure_ (i := 2) (N := some 120) (v := ?_) (a' := ?_) (zF 15 7) rfl rfl (any_of HT_.out (by kernel_rfl)) (fun _ _ _ h => h) (Or.inl ⟨by rfl, ?_⟩) ?_ ?_
            rotate_left; (intro w'; go_simp; with_reducible rfl); rotate_left; (simp only [Act.put, zA, zZ, zS, i64_w, i32_w]; rfl)
            refine pure_ (i := 3) (N := some 121) (v := ?_) (a' := ?_) (zF 15 15) rfl rfl (any_of HT_.out (by kernel_rfl)) (fun _ _ _ h => h) (Or.inl ⟨by rfl, ?_⟩) ?_ ?_
            rotate_left; (intro w'; go_simp; with_reducible rfl); rotate_left; (simp only [Act.put, zA, zZ, zS, i64_w, i32_w]; rfl)
            refine pure_ (i := 5) (N := some 123) (v := ?_) (a' := ?_) (zF 15 47) rfl rfl (any_of HT_.out (by kernel_rfl)) (fun _ _ _ h => h) (Or.inl ⟨by rfl, ?_⟩) ?_ ?_
            rotate_left; (intro w'; go_simp; with_reducible rfl); rotate_left; (simp only [Act.put, zA, zZ, zS, i64_w, i32_w]; rfl)
            refine pure_ (i := 6) (N := some 124) (v := ?_) (a' := ?_) (zF 15 111) rfl rfl (any_of HT_.out (by kernel_rfl)) (fun _ _ _ h => h) (Or.inl ⟨by rfl, ?_⟩) ?_ ?_
            rotate_left; (intro w'; go_simp; with_reducible rfl); rotate_left; (simp only [Act.put, zA, zZ, zS, i64_w, i32_w]; rfl)
            refine pure_ (i := 7) (N := some 125) (v := ?_) (a' := ?_) (zF 15 239) rfl rfl (any_of HT_.out (by kernel_rfl)) (fun _ _ _ h => h) (Or.inl ⟨by rfl, ?_⟩) ?_ ?_
            rotate_left; (intro w'; go_simp; with_reducible rfl); rotate_left; (simp only [Act.put, zA, zZ, zS, i64_w, i32_w]; rfl)
            refine take_ (i := 4) (N := some 122) (v := ?_) (a' := ?_) (zF 15 255) rfl rfl (take_ofW HT_.out HW_.out (by kernel_rfl)) (fun _ _ _ h => h) (Or.inl ⟨by rfl, ?_⟩) hHeld ?_ ?_
            rotate_left; (rintro w' ⟨s0, s1⟩; go_simp; with_reducible rfl); rotate_left; (simp only [Act.put, zA, zZ, zS, i64_w, i32_w]; rfl)
            refine take_ (i := 8) (N := some 126) (v := ?_) (a' := ?_) (zF 15 511) rfl rfl (take_ofW HT_.out HW_.out (by kernel_rfl)) (fun _ _ _ h => h) (Or.inl ⟨by rfl, ?_⟩) hHeld ?_ ?_
            rotate_left; (rintro w' ⟨s0, s1⟩; go_simp; with_reducible rfl); rotate_left; (simp only [Act.put, zA, zZ, zS, i64_w, i32_w]; rfl)
            refine pure_ (i := 9) (N := some 127) (v := ?_) (a' := ?_) (zF 15 1023) rfl rfl (any_of HT_.out (by kernel_rfl)) (fun _ _ _ h => h) (Or.inl ⟨by rfl, ?_⟩) ?_ ?_
            rotate_left; (intro w'; go_simp; with_reducible rfl); rotate_left; (simp only [Act.put, zA, zZ, zS, i64_w, i32_w]; rfl)
            refine one_ (i := 10) (N := some 128) (zF 15 2047) rfl rfl (one_of HT_.out (by kernel_rfl)) (by decide) (fun K hK => ?_)
            refine value_ (w1 := ?_) (v := ?_) (by rfl) rfl ?_ ?_
            rotate_left 2
            · go_simp
              constructor
              · rfl
              · rfl
            refine hK.out _ _ ⟨(Ha.out.on (below_alloc (Below.refl _ _) _)).c8, (Ha.out.on (below_alloc (Below.refl _ _) _)).c4⟩ (fun hHeld => ?_)
            clear hK K
            refine norm_ (a' := ?_) ?_ ?_
            rotate_left
            · show Act.put _ (some 128) _ = _
              simp only [Act.put, zA, zZ, zS, i64_w, i32_w]
              rfl
            refine one_ (i := 11) (N := some 129) (zF 15 4095) rfl rfl (one_of HT_.out (by kernel_rfl)) (by decide) (fun K hK => ?_)
            obtain ⟨xe, hel, her, heh⟩ := Ha.out.re
            have HEL := Aside0.mk hel
            have HER := Aside0.mk her
            have HEH := Aside0.mk heh
            clear hel her heh
            refine Kd.R_append_step (Kd.raw 6) (w0 := _) B (by rfl) (.tmp 122) (.tmp 128) 38 71 (.agg #[.int .i64 0, .int .i64 0, .int .u8 0, .int .i64 0, .slice none 0 0, .slice none 0 0]) 80 rfl Tryd.underlying38 info71 rfl (by decide) (by omega) ve.v xe [.int .i64 3, .int .i64 0, .int .u8 0, .int .i64 (Go.bits .or .i64 c2 b), .slice none 0 0, .slice none 0 0] [.int .i64 3, .int .i64 0, .int .u8 0, .int .i64 (Go.bits .or .i64 c2 b), .slice none 0 0, .slice none 0 0] (fun _ => True) (fun _ => False) rfl rfl ?aP (fun _ hk => hk.elim) (fun _ _ => trivial) HER.out (Below.refl _ _) Ha.out.lt (by have := HEL.out; have := HBG.out; omega) ?_
            (case aP => exact ⟨rfl, rfl, fun u hu => by simp at hu; rcases hu with rfl | rfl | rfl | rfl | rfl | rfl <;> rfl⟩)
            intro v1 wz ho hb hg hat
            have HG := Aside0.mk hg
            have HO := Aside0.mk ho
            have HBB := Aside0.mk hb
            clear ho hb hg hat
            obtain ⟨A1, c1, e1⟩ : ∃ A c, v1 = .slice A (xe.length + 1) c := slice_snoc HO.out
            subst e1
            have k8 := (Ha.out.cell_grown HG.out (Ha.out.fm rfl (by decide) HER.out) 8).trans (show _ = some ve.v from rfl)
            have k4 := (Ha.out.cell_grown HG.out (Ha.out.fm rfl (by decide) HER.out) 4).trans (show _ = some (.int .i64 (Go.bits .or .i64 c2 b)) from rfl)
            have j8 := Ha.out.free_grown HG.out (Ha.out.fm rfl (by decide) HER.out) 8
            refine hK.out _ _ ⟨k8, k4⟩ (fun hHeld => ?_)
            clear hK K
            refine norm_ (a' := ?_) ?_ ?_
            rotate_left
            · show Act.put _ (some 129) _ = _
              simp only [Act.put, zA, zZ, zS, i64_w, i32_w]
              rfl
            refine pure_ (i := 12) (N := some 130) (v := ?_) (a' := ?_) (zF 15 8191) rfl rfl (any_of HT_.out (by kernel_rfl)) (fun _ _ _ h => h) (Or.inl ⟨by rfl, ?_⟩) ?_ ?_
            rotate_left; (intro w'; go_simp; with_reducible rfl); rotate_left; (simp only [Act.put, zA, zZ, zS, i64_w, i32_w]; rfl)
            refine pure_ (i := 13) (N := some 131) (v := ?_) (a' := ?_) (zF 15 16383) rfl rfl (any_of HT_.out (by kernel_rfl)) (fun _ _ _ h => h) (Or.inl ⟨by rfl, ?_⟩) ?_ ?_
            rotate_left; (intro w'; go_simp; with_reducible rfl); rotate_left; (simp only [Act.put, zA, zZ, zS, i64_w, i32_w]; rfl)
            refine last_ (i := 14) (N := none) (zF 15 32767) rfl rfl (one_of HT_.out (by kernel_rfl)) (by decide) (fun K hK => ?_)
            refine skip_ (w1 := ?_) (by rfl) rfl ?_ ?_
            rotate_left
            · go_simp
              with_reducible rfl
            refine hK.out _ _ ?_
            clear hK K
            refine done_ (done_of HT_.out (by kernel_rfl)) ?_
            clear hHeld
            go_wp2
            go_end0
            refine ⟨rfl, .slice A1 (xe.length + 1) c1, ?_⟩
            rw [sdisp_in n ⟨ps, da, pt, cnt, cmd, 9⟩ b k2 c2 (by have h_ := HK2.out; rw [HTQ.out] at h_; exact h_) HC2.out (.inr (.inr (.inr (.inr rfl))))]
            exact Ha.out.put_e HEL.out HER.out HEH.out (Ev1.plain _ _ _ _ _ _ _) HO.out HBB.out HG.out
          · clear hl hh
            go_upto_region 21 with (fail)
            clear x2
            refine start_ (n := 16) (S := (fun w' => w'.cell? ⟨gm, 8, none⟩ = some ve.v ∧ w'.cell? ⟨gm, 4, none⟩ = some (.int .i64 c2))) (ds := [15]) #[false, false, false, false, false, false, false, false, false, false, false, false, false, false, false, false] (by kernel_rfl) rfl rfl ⟨H9.out.c8, H9.out.c4⟩ (fun hHeld => ?_)
            refine with_tabW e21_tab e21_bits (fun HT_ HW_ => ?_)
            have Ha := Aside0.mk (show MV B w0 w9.drew gm gq n D T ⟨ps, da, pt, k2, c2, 10⟩ vd vp ve from H9.out.drew)
            have HDT := Aside0.mk (show Kd.R (Kd.int .u8) 5 w9.drew B (okE gq vd vp) (.slice A4 da.length c4) da from Kd.R_drew HDAT.out)
            clear HDAT
            generalize w9.drew = wy at Ha HDT hHeld ⊢
            refine pure_ (i := 0) (N := some 156) (v := ?_) (a' := ?_) (zF 16 1) rfl rfl (any_of HT_.out (by kernel_rfl)) (fun _ _ _ h => h) (Or.inl ⟨by rfl, ?_⟩) ?_ ?_
            rotate_left; (intro w'; go_simp; with_reducible rfl); rotate_left; (simp only [Act.put, zA, zZ, zS, i64_w, i32_w]; rfl)
            refine pure_ (i := 1) (N := some 157) (v := ?_) (a' := ?_) (zF 16 3) rfl rfl (any_of HT_.out (by kernel_rfl)) (fun _ _ _ h => h) (Or.inl ⟨by rfl, ?_⟩) ?_ ?_
            rotate_left; (intro w'; go_simp; with_reducible rfl); rotate_left; (simp only [Act.put, zA, zZ, zS, i64_w, i32_w]; rfl)
            refine pure_ (i := 2) (N := some 158) (v := ?_) (a' := ?_) (zF 16 7) rfl rfl (any_of HT_.out (by kernel_rfl)) (fun _ _ _ h => h) (Or.inl ⟨by rfl, ?_⟩) ?_ ?_
            rotate_left; (intro w'; go_simp; with_reducible rfl); rotate_left; (simp only [Act.put, zA, zZ, zS, i64_w, i32_w]; rfl)
            refine pure_ (i := 3) (N := some 159) (v := ?_) (a' := ?_) (zF 16 15) rfl rfl (any_of HT_.out (by kernel_rfl)) (fun _ _ _ h => h) (Or.inl ⟨by rfl, ?_⟩) ?_ ?_
            rotate_left; (intro w'; go_simp; with_reducible rfl); rotate_left; (simp only [Act.put, zA, zZ, zS, i64_w, i32_w]; rfl)
            refine pure_ (i := 5) (N := some 161) (v := ?_) (a' := ?_) (zF 16 47) rfl rfl (any_of HT_.out (by kernel_rfl)) (fun _ _ _ h => h) (Or.inl ⟨by rfl, ?_⟩) ?_ ?_
            rotate_left; (intro w'; go_simp; with_reducible rfl); rotate_left; (simp only [Act.put, zA, zZ, zS, i64_w, i32_w]; rfl)
            refine pure_ (i := 6) (N := some 162) (v := ?_) (a' := ?_) (zF 16 111) rfl rfl (any_of HT_.out (by kernel_rfl)) (fun _ _ _ h => h) (Or.inl ⟨by rfl, ?_⟩) ?_ ?_
            rotate_left; (intro w'; go_simp; with_reducible rfl); rotate_left; (simp only [Act.put, zA, zZ, zS, i64_w, i32_w]; rfl)
            refine pure_ (i := 7) (N := some 163) (v := ?_) (a' := ?_) (zF 16 239) rfl rfl (any_of HT_.out (by kernel_rfl)) (fun _ _ _ h => h) (Or.inl ⟨by rfl, ?_⟩) ?_ ?_
            rotate_left; (intro w'; go_simp; with_reducible rfl); rotate_left; (simp only [Act.put, zA, zZ, zS, i64_w, i32_w]; rfl)
            refine pure_ (i := 9) (N := some 165) (v := ?_) (a' := ?_) (zF 16 751) rfl rfl (any_of HT_.out (by kernel_rfl)) (fun _ _ _ h => h) (Or.inl ⟨by rfl, ?_⟩) ?_ ?_
            rotate_left; (intro w'; go_simp; with_reducible rfl); rotate_left; (simp only [Act.put, zA, zZ, zS, i64_w, i32_w]; rfl)
            refine take_ (i := 4) (N := some 160) (v := ?_) (a' := ?_) (zF 16 767) rfl rfl (take_ofW HT_.out HW_.out (by kernel_rfl)) (fun _ _ _ h => h) (Or.inl ⟨by rfl, ?_⟩) hHeld ?_ ?_
            rotate_left; (rintro w' ⟨s0, s1⟩; go_simp; with_reducible rfl); rotate_left; (simp only [Act.put, zA, zZ, zS, i64_w, i32_w]; rfl)
            refine take_ (i := 8) (N := some 164) (v := ?_) (a' := ?_) (zF 16 1023) rfl rfl (take_ofW HT_.out HW_.out (by kernel_rfl)) (fun _ _ _ h => h) (Or.inl ⟨by rfl, ?_⟩) hHeld ?_ ?_
            rotate_left; (rintro w' ⟨s0, s1⟩; go_simp; with_reducible rfl); rotate_left; (simp only [Act.put, zA, zZ, zS, i64_w, i32_w]; rfl)
            refine pure_ (i := 10) (N := some 166) (v := ?_) (a' := ?_) (zF 16 2047) rfl rfl (any_of HT_.out (by kernel_rfl)) (fun _ _ _ h => h) (Or.inl ⟨by rfl, ?_⟩) ?_ ?_
            rotate_left; (intro w'; go_simp; with_reducible rfl); rotate_left; (simp only [Act.put, zA, zZ, zS, i64_w, i32_w]; rfl)
            refine one_ (i := 11) (N := some 167) (zF 16 4095) rfl rfl (one_of HT_.out (by kernel_rfl)) (by decide) (fun K hK => ?_)
            refine value_ (w1 := ?_) (v := ?_) (by rfl) rfl ?_ ?_
            rotate_left 2
            · go_simp
              constructor
              · rfl
              · rfl
            refine hK.out _ _ ⟨(Ha.out.on (below_alloc (Below.refl _ _) _)).c8, (Ha.out.on (below_alloc (Below.refl _ _) _)).c4⟩ (fun hHeld => ?_)
            clear hK K
            refine norm_ (a' := ?_) ?_ ?_
            rotate_left
            · show Act.put _ (some 167) _ = _
              simp only [Act.put, zA, zZ, zS, i64_w, i32_w]
              rfl
            refine one_ (i := 12) (N := some 168) (zF 16 8191) rfl rfl (one_of HT_.out (by kernel_rfl)) (by decide) (fun K hK => ?_)
            obtain ⟨xe, hel, her, heh⟩ := Ha.out.re
            have HEL := Aside0.mk hel
            have HER := Aside0.mk her
            have HEH := Aside0.mk heh
            clear hel her heh
            refine Kd.R_append_step (Kd.raw 6) (w0 := _) B (by rfl) (.tmp 160) (.tmp 167) 38 71 (.agg #[.int .i64 0, .int .i64 0, .int .u8 0, .int .i64 0, .slice none 0 0, .slice none 0 0]) 80 rfl Tryd.underlying38 info71 rfl (by decide) (by omega) ve.v xe [.int .i64 5, .int .i64 0, .int .u8 0, .int .i64 c2, .slice none 0 0, .slice A4 da.length c4] [.int .i64 5, .int .i64 0, .int .u8 0, .int .i64 c2, .slice none 0 0, .slice A4 da.length c4] (fun _ => True) (fun _ => False) rfl rfl ?aP (fun _ hk => hk.elim) (fun _ _ => trivial) HER.out (Below.refl _ _) Ha.out.lt (by have := HEL.out; have := HBG.out; omega) ?_
            (case aP => exact ⟨rfl, rfl, fun u hu => by simp at hu; rcases hu with rfl | rfl | rfl | rfl | rfl | rfl <;> rfl⟩)
            intro v1 wz ho hb hg hat
            have HG := Aside0.mk hg
            have HO := Aside0.mk ho
            have HBB := Aside0.mk hb
            clear ho hb hg hat
            obtain ⟨A1, c1, e1⟩ : ∃ A c, v1 = .slice A (xe.length + 1) c := slice_snoc HO.out
            subst e1
            have k8 := (Ha.out.cell_grown HG.out (Ha.out.fm rfl (by decide) HER.out) 8).trans (show _ = some ve.v from rfl)
            have k4 := (Ha.out.cell_grown HG.out (Ha.out.fm rfl (by decide) HER.out) 4).trans (show _ = some (.int .i64 c2) from rfl)
            have j8 := Ha.out.free_grown HG.out (Ha.out.fm rfl (by decide) HER.out) 8
            refine hK.out _ _ ⟨k8, k4⟩ (fun hHeld => ?_)
            clear hK K
            refine norm_ (a' := ?_) ?_ ?_
            rotate_left
            · show Act.put _ (some 168) _ = _
              simp only [Act.put, zA, zZ, zS, i64_w, i32_w]
              rfl
            refine pure_ (i := 13) (N := some 169) (v := ?_) (a' := ?_) (zF 16 16383) rfl rfl (any_of HT_.out (by kernel_rfl)) (fun _ _ _ h => h) (Or.inl ⟨by rfl, ?_⟩) ?_ ?_
            rotate_left; (intro w'; go_simp; with_reducible rfl); rotate_left; (simp only [Act.put, zA, zZ, zS, i64_w, i32_w]; rfl)
            refine pure_ (i := 14) (N := some 170) (v := ?_) (a' := ?_) (zF 16 32767) rfl rfl (any_of HT_.out (by kernel_rfl)) (fun _ _ _ h => h) (Or.inl ⟨by rfl, ?_⟩) ?_ ?_
            rotate_left; (intro w'; go_simp; with_reducible rfl); rotate_left; (simp only [Act.put, zA, zZ, zS, i64_w, i32_w]; rfl)
            refine last_ (i := 15) (N := none) (zF 16 65535) rfl rfl (one_of HT_.out (by kernel_rfl)) (by decide) (fun K hK => ?_)
            refine skip_ (w1 := ?_) (by rfl) rfl ?_ ?_
            rotate_left
            · go_simp
              with_reducible rfl
            refine hK.out _ _ ?_
            clear hK K
            refine done_ (done_of HT_.out (by kernel_rfl)) ?_
            clear hHeld
            go_wp2
            go_end0
            refine ⟨rfl, .slice A1 (xe.length + 1) c1, ?_⟩
            rw [sdisp_out n ⟨ps, da, pt, cnt, cmd, 10⟩ b k2 c2 (by have h_ := HK2.out; rw [HTQ.out] at h_; exact h_) HC2.out (by show ¬ ((10 : Int) = 1 ∨ (10 : Int) = 2 ∨ (10 : Int) = 3 ∨ (10 : Int) = 8 ∨ (10 : Int) = 9); decide)]
            exact Ha.out.put_e HEL.out HER.out HEH.out (show Ev1 _ _ _ _ ⟨5, 0, 0, c2, [], da⟩ from ⟨_, _, rfl, Kd.R_nil _ _ _ _ _, HDT.out⟩) HO.out HBB.out HG.out
          · clear hl hh
            obtain ⟨xe, hel, her, heh⟩ := H9.out.re
            have HEL := Aside0.mk hel
            have HER := Aside0.mk her
            have HEH := Aside0.mk heh
            clear hel her heh
            have c8 := H9.out.c8
            have HX8 := Aside0.mk (fun (w1 : World) (hg : World.grownBy _ w1 _) => (H9.out.cell_grown hg (H9.out.fm rfl (by decide) HER.out) 8).trans (show _ = some ve.v from rfl))
            have HY8 := Aside0.mk (fun (w1 : World) (hg : World.grownBy _ w1 _) => H9.out.free_grown hg (H9.out.fm rfl (by decide) HER.out) 8)
            go_wp2_with (first | ((with_reducible refine gate_builtin (b := .append) (xs := #[.tmp 203, .tmp 206]) rfl ?_); at_builtin; refine Kd.R_append (Kd.raw 6) (w0 := _) B rfl (.tmp 203) (.tmp 206) 38 71 (.agg #[.int .i64 0, .int .i64 0, .int .u8 0, .int .i64 0, .slice none 0 0, .slice none 0 0]) 80 rfl Tryd.underlying38 info71 rfl (by decide) (by omega) ve.v xe [.int .i64 8, .int .i64 0, .int .u8 0, .int .i64 0, .slice none 0 0, .slice A4 da.length c4] [.int .i64 8, .int .i64 0, .int .u8 0, .int .i64 0, .slice none 0 0, .slice A4 da.length c4] (fun _ => True) (fun _ => False) rfl rfl ?aP (fun _ hk => hk.elim) ?aF ?aO (Below.refl _ _) ?aS ?aL ?_; (case aP => exact ⟨rfl, rfl, fun u hu => by simp at hu; rcases hu with rfl | rfl | rfl | rfl | rfl | rfl <;> rfl⟩); (case aF => exact (fun _ _ => trivial)); (case aO => exact HER.out); (case aS => exact H9.out.lt); (case aL => have := HEL.out; have := HBG.out; omega); intro v1 w1 ho hb hg hat; have HG := Aside0.mk hg; have HO := Aside0.mk ho; have HBB := Aside0.mk hb; clear ho hb hg hat; obtain ⟨A1, c1, e1⟩ : ∃ A c, v1 = .slice A (xe.length + 1) c := slice_snoc HO.out; subst e1; have k8 := HX8.out w1 HG.out; have j8 := HY8.out w1 HG.out) | fail)
            go_end0
            refine ⟨rfl, .slice A1 (xe.length + 1) c1, ?_⟩
            rw [sdisp_out n ⟨ps, da, pt, cnt, cmd, 11⟩ b k2 c2 (by have h_ := HK2.out; rw [HTQ.out] at h_; exact h_) HC2.out (by show ¬ ((11 : Int) = 1 ∨ (11 : Int) = 2 ∨ (11 : Int) = 3 ∨ (11 : Int) = 8 ∨ (11 : Int) = 9); decide)]
            exact H9.out.put_e HEL.out HER.out HEH.out (show Ev1 _ _ _ _ ⟨8, 0, 0, 0, [], da⟩ from ⟨_, _, rfl, Kd.R_nil _ _ _ _ _, HDAT.out⟩) HO.out HBB.out HG.out
          · clear hl hh
            obtain ⟨xe, hel, her, heh⟩ := H9.out.re
            have HEL := Aside0.mk hel
            have HER := Aside0.mk her
            have HEH := Aside0.mk heh
            clear hel her heh
            have c8 := H9.out.c8
            have HX8 := Aside0.mk (fun (w1 : World) (hg : World.grownBy _ w1 _) => (H9.out.cell_grown hg (H9.out.fm rfl (by decide) HER.out) 8).trans (show _ = some ve.v from rfl))
            have HY8 := Aside0.mk (fun (w1 : World) (hg : World.grownBy _ w1 _) => H9.out.free_grown hg (H9.out.fm rfl (by decide) HER.out) 8)
            go_wp2_with (first | ((with_reducible refine gate_builtin (b := .append) (xs := #[.tmp 177, .tmp 180]) rfl ?_); at_builtin; refine Kd.R_append (Kd.raw 6) (w0 := _) B rfl (.tmp 177) (.tmp 180) 38 71 (.agg #[.int .i64 0, .int .i64 0, .int .u8 0, .int .i64 0, .slice none 0 0, .slice none 0 0]) 80 rfl Tryd.underlying38 info71 rfl (by decide) (by omega) ve.v xe [.int .i64 6, .int .i64 0, .int .u8 0, .int .i64 0, .slice none 0 0, .slice A4 da.length c4] [.int .i64 6, .int .i64 0, .int .u8 0, .int .i64 0, .slice none 0 0, .slice A4 da.length c4] (fun _ => True) (fun _ => False) rfl rfl ?aP (fun _ hk => hk.elim) ?aF ?aO (Below.refl _ _) ?aS ?aL ?_; (case aP => exact ⟨rfl, rfl, fun u hu => by simp at hu; rcases hu with rfl | rfl | rfl | rfl | rfl | rfl <;> rfl⟩); (case aF => exact (fun _ _ => trivial)); (case aO => exact HER.out); (case aS => exact H9.out.lt); (case aL => have := HEL.out; have := HBG.out; omega); intro v1 w1 ho hb hg hat; have HG := Aside0.mk hg; have HO := Aside0.mk ho; have HBB := Aside0.mk hb; clear ho hb hg hat; obtain ⟨A1, c1, e1⟩ : ∃ A c, v1 = .slice A (xe.length + 1) c := slice_snoc HO.out; subst e1; have k8 := HX8.out w1 HG.out; have j8 := HY8.out w1 HG.out) | fail)
            go_end0
            refine ⟨rfl, .slice A1 (xe.length + 1) c1, ?_⟩
            rw [sdisp_out n ⟨ps, da, pt, cnt, cmd, 12⟩ b k2 c2 (by have h_ := HK2.out; rw [HTQ.out] at h_; exact h_) HC2.out (by show ¬ ((12 : Int) = 1 ∨ (12 : Int) = 2 ∨ (12 : Int) = 3 ∨ (12 : Int) = 8 ∨ (12 : Int) = 9); decide)]
            exact H9.out.put_e HEL.out HER.out HEH.out (show Ev1 _ _ _ _ ⟨6, 0, 0, 0, [], da⟩ from ⟨_, _, rfl, Kd.R_nil _ _ _ _ _, HDAT.out⟩) HO.out HBB.out HG.out
          · clear hl hh
            obtain ⟨xe, hel, her, heh⟩ := H9.out.re
            have HEL := Aside0.mk hel
            have HER := Aside0.mk her
            have HEH := Aside0.mk heh
            clear hel her heh
            have c8 := H9.out.c8
            have HX8 := Aside0.mk (fun (w1 : World) (hg : World.grownBy _ w1 _) => (H9.out.cell_grown hg (H9.out.fm rfl (by decide) HER.out) 8).trans (show _ = some ve.v from rfl))
            have HY8 := Aside0.mk (fun (w1 : World) (hg : World.grownBy _ w1 _) => H9.out.free_grown hg (H9.out.fm rfl (by decide) HER.out) 8)
            go_wp2_with (first | ((with_reducible refine gate_builtin (b := .append) (xs := #[.tmp 190, .tmp 193]) rfl ?_); at_builtin; refine Kd.R_append (Kd.raw 6) (w0 := _) B rfl (.tmp 190) (.tmp 193) 38 71 (.agg #[.int .i64 0, .int .i64 0, .int .u8 0, .int .i64 0, .slice none 0 0, .slice none 0 0]) 80 rfl Tryd.underlying38 info71 rfl (by decide) (by omega) ve.v xe [.int .i64 7, .int .i64 0, .int .u8 0, .int .i64 0, .slice none 0 0, .slice A4 da.length c4] [.int .i64 7, .int .i64 0, .int .u8 0, .int .i64 0, .slice none 0 0, .slice A4 da.length c4] (fun _ => True) (fun _ => False) rfl rfl ?aP (fun _ hk => hk.elim) ?aF ?aO (Below.refl _ _) ?aS ?aL ?_; (case aP => exact ⟨rfl, rfl, fun u hu => by simp at hu; rcases hu with rfl | rfl | rfl | rfl | rfl | rfl <;> rfl⟩); (case aF => exact (fun _ _ => trivial)); (case aO => exact HER.out); (case aS => exact H9.out.lt); (case aL => have := HEL.out; have := HBG.out; omega); intro v1 w1 ho hb hg hat; have HG := Aside0.mk hg; have HO := Aside0.mk ho; have HBB := Aside0.mk hb; clear ho hb hg hat; obtain ⟨A1, c1, e1⟩ : ∃ A c, v1 = .slice A (xe.length + 1) c := slice_snoc HO.out; subst e1; have k8 := HX8.out w1 HG.out; have j8 := HY8.out w1 HG.out) | fail)
            go_end0
            refine ⟨rfl, .slice A1 (xe.length + 1) c1, ?_⟩
            rw [sdisp_out n ⟨ps, da, pt, cnt, cmd, 13⟩ b k2 c2 (by have h_ := HK2.out; rw [HTQ.out] at h_; exact h_) HC2.out (by show ¬ ((13 : Int) = 1 ∨ (13 : Int) = 2 ∨ (13 : Int) = 3 ∨ (13 : Int) = 8 ∨ (13 : Int) = 9); decide)]
            exact H9.out.put_e HEL.out HER.out HEH.out (show Ev1 _ _ _ _ ⟨7, 0, 0, 0, [], da⟩ from ⟨_, _, rfl, Kd.R_nil _ _ _ _ _, HDAT.out⟩) HO.out HBB.out HG.out
end Go.Proofs.YtmpmfdghdaofhaaDoor.Sp
