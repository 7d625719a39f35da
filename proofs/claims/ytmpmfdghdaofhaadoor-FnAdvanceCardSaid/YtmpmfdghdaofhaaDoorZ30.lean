/- Texts of this claim, joined; what isn't needed is left out (wip/slim.py). -/
import Derived.Test.YtmpmfdghdaofhaaDoorZ22
import Derived.Test.YtmpmfdghdaofhaaDoorZ25
import Derived.Test.YtmpmfdghdaofhaaDoorZ27
import Derived.Test.YtmpmfdghdaofhaaDoorZ28
import Derived.Test.YtmpmfdghdaofhaaDoorZ29
import Derived.Lib.LaidU8T
namespace Go.Proofs.YtmpmfdghdaofhaaDoor.Adv
set_option linter.unusedVariables false
set_option linter.unusedSimpArgs false
open Go Go.RowKit Go.Proofs.YtmpmfdghdaofhaaDoor.Pm Go.Proofs.YtmpmfdghdaofhaaDoorW.PrintWords Go.Proofs.YtmpmfdghdaofhaaDoorW.PrintLast Go.Proofs.YtmpmfdghdaofhaaDoorW.PrintMore
theorem drawn_below {w w' : World} (h : Drawn0 w w') : Below w.heap.size w w' := by
  obtain ⟨q, rfl⟩ := h
  exact ⟨rfl, rfl, rfl, Nat.le_refl _, fun _ _ => rfl⟩
theorem mstep (B : Nat) (w0 w : World) (gm gq n m T : Nat) (D : Int) (p : PM) (s : Sp.SM) (vd vp ve : Value) (h : Sp.MV B w0 w gm gq n D T s vd vp ve) (hs : Sim n m p s) (b : Int) (hb0 : 0 ≤ b) (hb1 : b < 256) (hT : T ≤ 90000) (hn : 4 ≤ n) (hn2 : n ≤ 1000000) :
    Calls Tryd.prog 15 #[.pointer (some ⟨gm, 0, none⟩), .int .u8 b] w fun e w' => e = .returned (.int .i64 (pstep n p b).2) ∧ ∃ s' vd' vp' ve', Sp.MV B w0 w' gm gq n D (T + 2) s' vd' vp' ve' ∧ Sim n m (pstep n p b).1 s' := by
  obtain ⟨hsim, hact⟩ := sim n m D hn p s b hs hb0 hb1
  rw [hact]
  by_cases h14 : s.st = 14
  · have e : sstep n D s b = (⟨s.ps, s.da, s.pt ++ [b], s.cnt, s.cmd, if ((s.pt.length + 1 : Nat) : Int) < Sp.plen (rd (s.pt ++ [b]) 0) then 14 else 0⟩, if ((s.pt.length + 1 : Nat) : Int) < Sp.plen (rd (s.pt ++ [b]) 0) then 2 else 9) := by unfold sstep; rw [if_pos h14]
    rw [e] at hsim ⊢
    refine (Sp.sadvU_ B w0 w gm gq n T D s vd vp ve h b hb0 hb1 hT h14).mono ?_
    rintro e w' ⟨he, vd', vp', ve', hv⟩
    exact ⟨he, _, vd', vp', ve', hv, hsim⟩
  · have e : sstep n D s b = (Sp.sadvG n D (Ma.nx s.st b) (Ma.ac s.st b) s b, Ma.ac s.st b) := by unfold sstep; rw [if_neg h14]
    rw [e] at hsim ⊢
    have h0 : 0 ≤ s.st := by rw [← hs.st]; exact hs.ok.s0
    have h1 : s.st ≤ 14 := by rw [← hs.st]; exact hs.ok.s1
    have he := ent_ok s.st b h0 (by omega) hb0 hb1
    refine (Sp.sadv_ B w0 w gm gq n T D s vd vp ve h b (Ma.nx s.st b) (Ma.ac s.st b) hb0 hb1 ⟨he.a0, he.a9⟩ (by omega) hs.cnt ⟨hn2, by omega⟩ ⟨he.h4, he.h8⟩ h14 (fun w => (PK.spec_Transition.calls 40 s.st b _ _ w (Ma.spec_is s.st b h0 (by omega) hb0 hb1)).mono (fun e w' h => ⟨h.1, drawn_below h.2⟩))).mono ?_
    rintro e w' ⟨he, vd', vp', ve', hv⟩
    exact ⟨he, _, vd', vp', ve', hv.more (by omega), hsim⟩
theorem outs_len {xs : List (List Value)} {l : List (Int × Int)} (h : Outs xs l) : xs.length = l.length := by
  have := congrArg List.length h
  simpa using this
theorem outs_at {xs : List (List Value)} {d r : List (Int × Int)} {a st : Int} (h : Outs xs (d ++ (a, st) :: r)) : ∃ x, xs.getD d.length [] = x ∧ x[0]? = some (.int .i64 a) ∧ x[1]? = some (.int .i64 st) := by
  refine ⟨_, rfl, ?_⟩
  have hl := outs_len h
  have hk : d.length < xs.length := by rw [hl]; simp
  have h1 := congrArg (fun z => z[d.length]?) h
  simp only [List.getElem?_map, List.getElem?_append_right (Nat.le_refl _), Nat.sub_self, List.getElem?_cons_zero, List.getElem?_eq_getElem hk, Option.map_some, Option.some.injEq] at h1
  rw [List.getD_eq_getElem?_getD, List.getElem?_eq_getElem hk, Option.getD_some]
  have t0 := congrArg (fun z => z[0]?) h1
  have t1 := congrArg (fun z => z[1]?) h1
  simp only [List.getElem?_take] at t0 t1
  exact ⟨by simpa using t0, by simpa using t1⟩
theorem prun_len (n : Nat) : ∀ (l : List Int) (p : PM), (prun n p l).length = l.length := by
  intro l
  induction l with
  | nil => intro p; rfl
  | cons b l ih => intro p; rw [prun_cons, List.length_cons, List.length_cons, ih]
def g13T : Bool × List (List Nat × List Nat) := (true, [([], []), ([], []), ([0, 1], [0, 1]), ([2], [2]), ([3], [3]), ([], []), ([4, 5], [4, 5]), ([6], [6]), ([7], [7]), ([7], [7]), ([8, 9, 7], [7, 8, 9]), ([10, 7], [7, 10]), ([11, 7], [7, 11]), ([7], [7]), ([13, 7], [7, 13]), ([14, 7], [7, 14]), ([15, 7], [7, 15]), ([12, 16, 7], [7, 12, 16]), ([7, 17], [7, 17])])
def g13B : List Nat := [0, 0, 3, 7, 15, 0, 63, 127, 255, 255, 1023, 2047, 4095, 255, 8447, 24831, 57599, 131071, 262143]
theorem g13_tab : rtab .any (opsOf Tryd.f5 13) = g13T := by kernel_rfl
theorem g13_bits : waitsOk g13T.2 g13B = true := by kernel_rfl
set_option maxHeartbeats 16000000 in
set_option maxRecDepth 100000 in
theorem walk (a0 a1 : Int) (A : Option Addr) (c : Nat) (l : List Int) (w : World) (hr : Kd.C (Kd.int .u8) w A l.length l) (hc : l.length ≤ c) (hb : ∀ x ∈ l, 0 ≤ x ∧ x < 256) (hT : Lib.Utf8Tabs 0 1 w) :
    Calls Tryd.prog 5 #[.int .i64 a0, .int .i64 a1, .slice A l.length c] w fun e w' => e = .returned (.bool true) ∧ Below w.heap.size w w' := by
  have HR := Aside0.mk hr
  have HC := Aside0.mk hc
  have HBY := Aside0.mk hb
  have HT := Aside0.mk hT
  clear hr hc hb hT
  obtain ⟨L, hL⟩ : ∃ L, L = l.length := ⟨_, rfl⟩
  have HL := Aside0.mk (show l.length = L from hL.symm)
  rw [← hL]
  clear hL
  by_cases hbig : 2147483647 < (L : Int)
  · have t0 : decide (2147483647 < (L : Int)) = true := decide_eq_true hbig
    clear hbig
    go_enter Tryd.func5, Tryd.ntmps5
    go_wp2
    go_ret
    exact ⟨rfl, Below.refl _ _⟩
  have t0 : decide (2147483647 < (L : Int)) = false := decide_eq_false hbig
  clear hbig
  obtain ⟨r, hf⟩ : ∃ r, PF.laws_isFed.f a0 a1 l = some r := by
    unfold PF.laws_isFed.f
    repeat' split
    all_goals exact ⟨_, rfl⟩
  have HFED := Aside0.mk (show Calls Tryd.prog 11 #[.int .i64 a0, .int .i64 a1, .slice A L c] w fun e w' => e = .returned (.bool r) ∧ Drawn0 w w' by
    have h_ := PF.laws_isFed.calls a0 a1 A c l r w HR.out HC.out hf
    rw [HL.out] at h_
    exact h_)
  cases r with
  | false =>
    clear hf
    go_enter Tryd.func5, Tryd.ntmps5
    go_wp2_with fail
    refine HFED.out.mono ?_
    rintro e w1 ⟨rfl, hd⟩
    have HD := Aside0.mk (drawn_below hd)
    clear hd
    go_wp2
    go_ret
    exact ⟨rfl, HD.out⟩
  | true =>
    have hin : (4 ≤ a0 ∧ a0 ≤ 64) ∧ a1 ≤ 2000 ∧ L ≤ 600 := by
      unfold PF.laws_isFed.f at hf
      repeat' split at hf
      all_goals first | (simp at hf; done) | skip
      simp at hf
      have := HL.out
      omega
    clear hf
    by_cases hd1 : a1 < 1
    · have t1 : decide (a1 < 1) = true := decide_eq_true hd1
      clear hd1 hin
      go_enter Tryd.func5, Tryd.ntmps5
      go_wp2_with fail
      refine HFED.out.mono ?_
      rintro e w1 ⟨rfl, hd⟩
      have HD := Aside0.mk (drawn_below hd)
      clear hd
      go_wp2
      go_ret
      exact ⟨rfl, HD.out⟩
    obtain ⟨n, rfl⟩ := Int.eq_ofNat_of_zero_le (show 0 ≤ a0 by omega)
    obtain ⟨m, rfl⟩ := Int.eq_ofNat_of_zero_le (show 0 ≤ a1 by omega)
    have t1 : decide ((m : Int) < 1) = false := decide_eq_false hd1
    have HIN := Aside0.mk (show 4 ≤ n ∧ n ≤ 64 ∧ 1 ≤ m ∧ m ≤ 2000 ∧ L ≤ 600 by omega)
    clear hin hd1
    go_enter Tryd.func5, Tryd.ntmps5
    go_wp2_with fail
    refine HFED.out.mono ?_
    rintro e w1 ⟨rfl, hd⟩
    have B1 := Aside0.mk (drawn_below hd)
    clear hd HFED
    go_wp2_with fail
    refine (show Calls Tryd.prog 13 #[.slice A L c] w1 fun e w' => ∃ v, e = .returned v ∧ Kd.R (Kd.int .u8) 5 w' w1.heap.size (fun _ => True) v l ∧ Below w1.heap.size w1 w' by
      have h_ := Or.bytes_Clone.calls A c l l w1 (Kd.C_below HR.out B1.out) HC.out (by unfold Or.bytes_Clone.f; rw [if_pos (by have := HIN.out; have := HL.out; omega)])
      rw [HL.out] at h_
      exact h_).mono ?_
    rintro e w2 ⟨v2, rfl, hr2, hb2⟩
    have B2 := Aside0.mk (below_step B1.out hb2)
    obtain ⟨A2, c2, e2⟩ : ∃ A c, v2 = .slice A L c := by
      obtain ⟨A, c, e⟩ := Kd.R_slice hr2
      exact ⟨A, c, by rw [e, HL.out]⟩
    subst e2
    have HADV := Aside0.mk (show Calls Tryd.prog 12 #[.int .i64 (n : Int), .int .i64 (m : Int), .slice A2 L c2] w2 fun e w' => ∃ v xs, e = .returned v ∧ Kd.R (Kd.raw 7) 37 w' w2.heap.size (fun _ => True) v xs ∧ Outs xs (prun n (p0 n m) l) ∧ Below w2.heap.size w2 w' by
      have hi := HIN.out
      have hrd := Kd.R_reads' hr2
      have h_ := advance_ w2 A2 c2 n m l (by have h2 := hrd.2.2; first | exact h2 | (rw [HL.out]; exact h2)) (by first | exact hrd.2.1 | (have := hrd.2.1; have := HL.out; omega) | (have := hrd.1; have := HL.out; omega)) (by have := HL.out; omega) HBY.out (by omega) (by omega) (well n m (by omega)) (Go.Proofs.Utf8Tabs_below HT.out B2.out)
      rw [HL.out] at h_
      exact h_)
    clear hr2 hb2
    go_wp2_with fail
    refine HADV.out.mono ?_
    rintro e w3 ⟨v3, xs, rfl, hr3, hout, hb3⟩
    have B3 := Aside0.mk (below_step B2.out hb3)
    have HOUT := Aside0.mk hout
    have HXL := Aside0.mk (show xs.length = L by rw [outs_len hout, prun_len, HL.out])
    obtain ⟨A3, c3, e3⟩ : ∃ A c, v3 = .slice A L c := by
      obtain ⟨A, c, e⟩ := Kd.R_slice hr3
      exact ⟨A, c, by rw [e, HXL.out]⟩
    subst e3
    have HF3 := Aside0.mk (show 0 < L → ∃ g, A3 = some ⟨g, 0, none⟩ by
      intro hp
      obtain ⟨g, c', e, _⟩ := Kd.R_form hr3 (by rw [HXL.out]; exact hp)
      cases e
      exact ⟨g, rfl⟩)
    have HC3 := Aside0.mk (show Kd.C (Kd.raw 7) w3 A3 xs.length xs by
      have h2 := (Kd.R_reads' hr3).2.2
      first | exact h2 | (rw [HXL.out]; exact h2))
    clear hr3 hout hb3 HADV
    go_wp2_with fail
    refine (Sp.newMachine_ w3 n (m : Int) (by have := HIN.out; omega)).mono ?_
    rintro e w4 ⟨gm, gq, rfl, hmv⟩
    have HM := Aside0.mk hmv
    have HR3 := Aside0.mk (Kd.C_below HR.out B3.out)
    clear hmv
    go_wp2_with fail
    go_loopw [39] (fun v39 wr => ∃ (J : Int) (k T : Nat) (p : PM) (s : Sp.SM) (vd vp ve : Value) (dn : List (Int × Int)), v39 = .int .i64 J ∧ Aside0 (J = (k : Int)) ∧ Aside0 (k ≤ L) ∧ Aside0 (T ≤ 2 * k) ∧ Aside0 (Sp.MV w3.heap.size w3 wr gm gq n (m : Int) T s vd vp ve) ∧ Aside0 (Sim n m p s) ∧ Aside0 (dn.length = k) ∧ Aside0 (dn ++ prun n p (l.drop k) = prun n (p0 n m) l)) (fun v39 _ => L - (intOf v39).toNat)
    case atStart => exact ⟨0, 0, 0, p0 n m, Sp.s0 n, _, _, _, [], rfl, ⟨rfl⟩, ⟨Nat.zero_le _⟩, ⟨Nat.le_refl _⟩, HM, ⟨sim0 n m⟩, ⟨rfl⟩, ⟨rfl⟩⟩
    case round =>
      clear HM
      obtain ⟨J, k, T, p, s, vd, vp, ve, dn, rfl, HJ, HK, HTT, HM, HS, HDN, HA⟩ := hrel
      have hwr : wrap64 (J + 1) = J + 1 := by have := HJ.out; have := HK.out; have := HIN.out; unfold wrap64; omega
      by_cases hlt : k < L
      · have hj := HJ.out
        have tlt : decide (J < (L : Int)) = true := decide_eq_true (by omega)
        have z0 : 0 ≤ J := by omega
        have z1 : J < (L : Int) := by omega
        have HRR := Kd.C_below HR3.out HM.out.b
        obtain ⟨ad0, e0, hx⟩ := Kd.at_int HRR J z0 (by have := HL.out; omega)
        cases e0
        obtain ⟨b, hbv⟩ : ∃ b, b = rd l J := ⟨_, rfl⟩
        rw [← hbv] at hx
        obtain rfl : J = (k : Int) := hj
        rw [Int.toNat_natCast] at hx
        have hkl : k < l.length := by rw [HL.out]; exact hlt
        have hbm : b ∈ l := by
          rw [hbv]
          unfold rd
          rw [Int.toNat_natCast, List.getD_eq_getElem?_getD, List.getElem?_eq_getElem hkl]
          exact List.getElem_mem hkl
        have hdr : l.drop k = b :: l.drop (k + 1) := by
          rw [List.drop_eq_getElem_cons hkl, hbv]
          unfold rd
          rw [Int.toNat_natCast, List.getD_eq_getElem?_getD, List.getElem?_eq_getElem hkl]
          rfl
        have hbb := HBY.out b hbm
        have HSTEP := Aside0.mk (mstep w3.heap.size w3 wr gm gq n m T (m : Int) p s vd vp ve HM.out HS.out b hbb.1 hbb.2 (by have := HTT.out; have := HIN.out; omega) (by have := HIN.out; omega) (by have := HIN.out; omega))
        obtain ⟨p1, hp1⟩ : ∃ q, q = (pstep n p b).1 := ⟨_, rfl⟩
        obtain ⟨a, ha⟩ : ∃ a, a = (pstep n p b).2 := ⟨_, rfl⟩
        obtain ⟨st1, hst⟩ : ∃ a, a = p1.st := ⟨_, rfl⟩
        have HST := Aside0.mk hst
        rw [← hp1, ← ha] at HSTEP
        have hA := HA.out
        rw [hdr, prun_cons, ← hp1, ← ha, ← hst] at hA
        have HA2 := Aside0.mk (show (dn ++ [(a, st1)]) ++ prun n p1 (l.drop (k + 1)) = prun n (p0 n m) l by rw [List.append_assoc]; exact hA)
        have hO := HOUT.out
        rw [← hA] at hO
        obtain ⟨x, hxx, hxa, hxs⟩ := outs_at hO
        rw [HDN.out] at hxx
        obtain ⟨ad, c_, e_, _, hK_, hcell⟩ := Kd.C_get HC3.out ([] : List Value) (k : Int) (by omega) (by rw [HXL.out]; exact z1)
        obtain ⟨rfl, _⟩ := hK_
        rw [Int.toNat_natCast, hxx] at hcell
        obtain ⟨gr, er⟩ := HF3.out (by omega)
        subst er
        cases e_
        have QA := Aside0.mk (show w3.cell? ⟨gr, k * 7, none⟩ = some (.int .i64 a) by
          have h_ := hcell 0 _ hxa
          rw [show (⟨gr, 0, none⟩ : Addr).add (k * (Kd.raw 7).sz + 0) = ⟨gr, k * 7, none⟩ by show (⟨gr, 0, none⟩ : Addr).add (k * 7 + 0) = _; simp [Addr.add]; intro h_; exact h_.symm] at h_
          exact h_)
        have QS := Aside0.mk (show w3.cell? ⟨gr, k * 7 + 1, none⟩ = some (.int .i64 st1) by
          have h_ := hcell 1 _ hxs
          simpa [Addr.add, Kd.raw] using h_)
        clear hbv hbm hdr hbb hp1 ha hst hA hO hxx hxa hxs hcell HRR HA
        go_wp2_with fail
        refine HSTEP.out.mono ?_
        rintro e wz ⟨rfl, s1, vd1, vp1, ve1, hv1, hs1⟩
        have HM1 := Aside0.mk hv1
        have HS1 := Aside0.mk hs1
        have qa : wz.cell? ⟨gr, k * 7, none⟩ = some (.int .i64 a) := (hv1.b.cell (World.block_lt_of_cell? w3 _ QA.out)).trans QA.out
        have qs : wz.cell? ⟨gr, k * 7 + 1, none⟩ = some (.int .i64 st1) := (hv1.b.cell (World.block_lt_of_cell? w3 _ QS.out)).trans QS.out
        have qm : wz.cell? ⟨gm, 2, none⟩ = some (.int .i64 st1) := by rw [HST.out, hs1.st]; exact hv1.c2
        clear hv1 hs1 HSTEP hx HM HS
        go_wp2_with fail
        refine start_ (n := 19) (S := (fun w' => w'.cell? ⟨gr, k * 7, none⟩ = some (.int .i64 a) ∧ w'.cell? ⟨gr, k * 7 + 1, none⟩ = some (.int .i64 st1) ∧ w'.cell? ⟨gm, 2, none⟩ = some (.int .i64 st1))) (ds := []) #[false, false, false, false, false, false, false, false, false, false, false, false, false, false, false, false, false, false, false] (by kernel_rfl) rfl rfl ⟨qa, qs, qm⟩ (fun hHeld => ?_)
        refine with_tabW g13_tab g13_bits (fun HT_ HW_ => ?_)
        have HMd := Aside0.mk (HM1.out.drew)
        clear HM1
        generalize wz.drew = wy at HMd hHeld ⊢
        refine pure_ (i := 0) (N := some 47) (v := ?_) (a' := ?_) (zF 19 1) rfl rfl (any_of HT_.out (by kernel_rfl)) (fun _ _ _ h => h) (Or.inl ⟨by rfl, ?_⟩) ?_ ?_
        rotate_left; (intro w'; go_simp; with_reducible rfl); rotate_left; (simp only [Act.put, zA, zZ, zS, i64_w, i32_w]; rfl)
        refine pure_ (i := 1) (N := some 48) (v := ?_) (a' := ?_) (zF 19 3) rfl rfl (any_of HT_.out (by kernel_rfl)) (fun _ _ _ h => h) (Or.inl ⟨by rfl, ?_⟩) ?_ ?_
        rotate_left; (intro w'; go_simp; with_reducible rfl); rotate_left; (simp only [Act.put, zA, zZ, zS, i64_w, i32_w]; rfl)
        refine pure_ (i := 2) (N := some 49) (v := ?_) (a' := ?_) (zF 19 7) rfl rfl (any_of HT_.out (by kernel_rfl)) (fun _ _ _ h => h) (Or.inl ⟨by rfl, ?_⟩) ?_ ?_
        rotate_left; (intro w'; go_simp; with_reducible rfl); rotate_left; (simp only [Act.put, zA, zZ, zS, i64_w, i32_w]; rfl)
        refine pure_ (i := 3) (N := some 50) (v := ?_) (a' := ?_) (zF 19 15) rfl rfl (any_of HT_.out (by kernel_rfl)) (fun _ _ _ h => h) (Or.inl ⟨by rfl, ?_⟩) ?_ ?_
        rotate_left; (intro w'; go_simp; with_reducible rfl); rotate_left; (simp only [Act.put, zA, zZ, zS, i64_w, i32_w]; rfl)
        refine pure_ (i := 5) (N := some 52) (v := ?_) (a' := ?_) (zF 19 47) rfl rfl (any_of HT_.out (by kernel_rfl)) (fun _ _ _ h => h) (Or.inl ⟨by rfl, ?_⟩) ?_ ?_
        rotate_left; (intro w'; go_simp; with_reducible rfl); rotate_left; (simp only [Act.put, zA, zZ, zS, i64_w, i32_w]; rfl)
        refine take_ (i := 4) (N := some 51) (v := ?_) (a' := ?_) (zF 19 63) rfl rfl (take_ofW HT_.out HW_.out (by kernel_rfl)) (fun _ _ _ h => h) (Or.inl ⟨by rfl, ?_⟩) hHeld ?_ ?_
        rotate_left; (rintro w' ⟨s0, s1, s2⟩; go_simp; with_reducible rfl); rotate_left; (simp only [Act.put, zA, zZ, zS, i64_w, i32_w]; rfl)
        refine pure_ (i := 6) (N := some 53) (v := ?_) (a' := ?_) (zF 19 127) rfl rfl (any_of HT_.out (by kernel_rfl)) (fun _ _ _ h => h) (Or.inl ⟨by rfl, ?_⟩) ?_ ?_
        rotate_left; (intro w'; go_simp; with_reducible rfl); rotate_left; (simp only [Act.put, zA, zZ, zS, i64_w, i32_w]; rfl)
        refine pure_ (i := 7) (N := some 54) (v := ?_) (a' := ?_) (zF 19 255) rfl rfl (any_of HT_.out (by kernel_rfl)) (fun _ _ _ h => h) (Or.inl ⟨by rfl, ?_⟩) ?_ ?_
        rotate_left; (intro w'; go_simp; with_reducible rfl); rotate_left; (simp only [Act.put, zA, zZ, zS, i64_w, i32_w]; rfl)
        refine pure_ (i := 8) (N := some 55) (v := ?_) (a' := ?_) (zF 19 511) rfl rfl (any_of HT_.out (by kernel_rfl)) (fun _ _ _ h => h) (Or.inl ⟨by rfl, ?_⟩) ?_ ?_
        rotate_left; (intro w'; go_simp; with_reducible rfl); rotate_left; (simp only [Act.put, zA, zZ, zS, i64_w, i32_w]; rfl)
        refine pure_ (i := 9) (N := some 56) (v := ?_) (a' := ?_) (zF 19 1023) rfl rfl (any_of HT_.out (by kernel_rfl)) (fun _ _ _ h => h) (Or.inl ⟨by rfl, ?_⟩) ?_ ?_
        rotate_left; (intro w'; go_simp; with_reducible rfl); rotate_left; (simp only [Act.put, zA, zZ, zS, i64_w, i32_w]; rfl)
        refine pure_ (i := 10) (N := some 57) (v := ?_) (a' := ?_) (zF 19 2047) rfl rfl (any_of HT_.out (by kernel_rfl)) (fun _ _ _ h => h) (Or.inl ⟨by rfl, ?_⟩) ?_ ?_
        rotate_left; (intro w'; go_simp; with_reducible rfl); rotate_left; (simp only [Act.put, zA, zZ, zS, i64_w, i32_w]; rfl)
        refine pure_ (i := 11) (N := some 58) (v := ?_) (a' := ?_) (zF 19 4095) rfl rfl (any_of HT_.out (by kernel_rfl)) (fun _ _ _ h => h) (Or.inl ⟨by rfl, ?_⟩) ?_ ?_
        rotate_left; (intro w'; go_simp; with_reducible rfl); rotate_left; (simp only [Act.put, zA, zZ, zS, i64_w, i32_w]; rfl)
        refine pure_ (i := 13) (N := some 60) (v := ?_) (a' := ?_) (zF 19 12287) rfl rfl (any_of HT_.out (by kernel_rfl)) (fun _ _ _ h => h) (Or.inl ⟨by rfl, ?_⟩) ?_ ?_
        rotate_left; (intro w'; go_simp; with_reducible rfl); rotate_left; (simp only [Act.put, zA, zZ, zS, i64_w, i32_w]; rfl)
        refine pure_ (i := 14) (N := some 61) (v := ?_) (a' := ?_) (zF 19 28671) rfl rfl (any_of HT_.out (by kernel_rfl)) (fun _ _ _ h => h) (Or.inl ⟨by rfl, ?_⟩) ?_ ?_
        rotate_left; (intro w'; go_simp; with_reducible rfl); rotate_left; (simp only [Act.put, zA, zZ, zS, i64_w, i32_w]; rfl)
        refine pure_ (i := 15) (N := some 62) (v := ?_) (a' := ?_) (zF 19 61439) rfl rfl (any_of HT_.out (by kernel_rfl)) (fun _ _ _ h => h) (Or.inl ⟨by rfl, ?_⟩) ?_ ?_
        rotate_left; (intro w'; go_simp; with_reducible rfl); rotate_left; (simp only [Act.put, zA, zZ, zS, i64_w, i32_w]; rfl)
        refine take_ (i := 12) (N := some 59) (v := ?_) (a' := ?_) (zF 19 65535) rfl rfl (take_ofW HT_.out HW_.out (by kernel_rfl)) (fun _ _ _ h => h) (Or.inl ⟨by rfl, ?_⟩) hHeld ?_ ?_
        rotate_left; (rintro w' ⟨s0, s1, s2⟩; go_simp; with_reducible rfl); rotate_left; (simp only [Act.put, zA, zZ, zS, i64_w, i32_w]; rfl)
        refine take_ (i := 16) (N := some 63) (v := ?_) (a' := ?_) (zF 19 131071) rfl rfl (take_ofW HT_.out HW_.out (by kernel_rfl)) (fun _ _ _ h => h) (Or.inl ⟨by rfl, ?_⟩) hHeld ?_ ?_
        rotate_left; (rintro w' ⟨s0, s1, s2⟩; go_simp; with_reducible rfl); rotate_left; (simp only [Act.put, zA, zZ, zS, i64_w, i32_w]; rfl)
        refine pure_ (i := 17) (N := some 64) (v := ?_) (a' := ?_) (zF 19 262143) rfl rfl (any_of HT_.out (by kernel_rfl)) (fun _ _ _ h => h) (Or.inl ⟨by rfl, ?_⟩) ?_ ?_
        rotate_left; (intro w'; go_simp; with_reducible rfl); rotate_left; (simp only [Act.put, zA, zZ, zS, i64_w, i32_w]; rfl)
        refine pure_ (i := 18) (N := some 65) (v := ?_) (a' := ?_) (zF 19 524287) rfl rfl (any_of HT_.out (by kernel_rfl)) (fun _ _ _ h => h) (Or.inl ⟨by rfl, ?_⟩) ?_ ?_
        rotate_left; (intro w'; go_simp; with_reducible rfl); rotate_left; (simp only [Act.put, zA, zZ, zS, i64_w, i32_w]; rfl)
        refine done_ (done_of HT_.out (by kernel_rfl)) ?_
        clear hHeld qa qs qm
        go_wp2_with fail
        go_roundw
        case rel =>
          exact ⟨_, k + 1, T + 2, p1, s1, vd1, vp1, ve1, dn ++ [(a, st1)], rfl, ⟨by first | rfl | (rw [hwr]; rfl)⟩, ⟨by omega⟩, ⟨by have := HTT.out; omega⟩, HMd, HS1, ⟨by rw [List.length_append, HDN.out]; rfl⟩, HA2⟩
        case measure =>
          (try rw [hwr])
          simp [intOf]
          omega
      · have tlt : decide (J < (L : Int)) = false := decide_eq_false (by have := HJ.out; omega)
        have B4 := Aside0.mk (show Below w.heap.size w wr from below_step B3.out HM.out.b)
        clear HM
        go_wp2_with fail
        refine (Ma.awake_ _).mono ?_
        rintro e w5 ⟨rfl, hb5⟩
        have B5 := Aside0.mk (below_step B4.out hb5)
        clear hb5
        go_wp2
        go_ret
        exact ⟨rfl, B5.out⟩
theorem walkR (a0 a1 : Int) (a2 : Option Addr) (len2 cap2 : Nat) (z2 : List Int) (w : World) (hLD : Lib.Utf8Tabs 0 1 w) (w0 : (Lit.int .i64 a0).wf = true) (w1 : (Lit.int .i64 a1).wf = true) (w2 : (a2 = none ∧ len2 = 0 ∧ cap2 = 0 ∧ z2 = []) ∨ ∃ x, a2 = some x ∧ len2 ≤ cap2 ∧ cap2 ≤ maxLen ∧ z2.length = cap2 ∧ (∀ i, i < z2.length → w.cell? (x.add i) = some (.int .u8 (z2.getD i 0))) ∧ ∀ n ∈ z2, (Lit.int .u8 n).wf = true) (y2 : len2 * 1 ≤ 140737488351232) :
    Calls Tryd.prog 5 #[.int .i64 a0, .int .i64 a1, .slice a2 len2 cap2] w fun e w' => e = .returned (.bool true) ∧ Below w.heap.size w w' := by
  obtain ⟨l2, rfl, hr2, hm2, hw2, hc2⟩ := ReadsInt.ofRowC w2
  have m0 : IntKind.u8.min = 0 := rfl
  have m1 : IntKind.u8.max = 255 := rfl
  exact walk a0 a1 _ _ l2 w (Kd.C_of_reads (d := (0 : Int)) (h1 := fun _ => rfl) hr2) hc2 (fun x hx => by
    have h_ := hw2 x hx
    simp [Lit.wf, m0, m1] at h_
    omega) hLD
def uren : Go.Shelf.Ren := ⟨fun n => n, fun | 119 => 103 | 138 => 105 | 139 => 106 | n => n, fun | 3 => 0 | 4 => 1 | n => n⟩
theorem utypes : U8Types Tryd.prog uren := ⟨Tryd.underlying5, Tryd.underlying103, Tryd.underlying105, Tryd.underlying106⟩
theorem uextra : U8Extra Tryd.prog uren := ⟨by kernel_rfl, by kernel_rfl, by kernel_rfl, by kernel_rfl, by kernel_rfl, by kernel_rfl, by kernel_rfl⟩
end Go.Proofs.YtmpmfdghdaofhaaDoor.Adv
