/- Texts of this claim, joined; what isn't needed is left out (wip/slim.py). -/
import Derived.Test.YtmpmfdghdaofhaaDoorZH10
import Derived.Test.YtmpmfdghdaofhaaDoorZH11
namespace Go.Proofs.YtmpmfdghdaofhaaDoor.Pm
set_option linter.unusedVariables false
set_option linter.unusedSimpArgs false
open Go Go.RowKit Go.Proofs.YtmpmfdghdaofhaaDoorW.PrintWords Go.Proofs.YtmpmfdghdaofhaaDoorW.PrintLast Go.Proofs.YtmpmfdghdaofhaaDoorW.PrintMore
def ulen (c : Int) : Int := if c ≤ 127 then 1 else if 192 ≤ c ∧ c ≤ 223 then 2 else if 224 ≤ c ∧ c ≤ 239 then 3 else if 240 ≤ c ∧ c ≤ 247 then 4 else -1
theorem ulen_f (c : Int) : ∃ k, PW.xansi_utf8ByteLen.f k c = some (ulen c) := by
  refine ⟨2, ?_⟩
  unfold PW.xansi_utf8ByteLen.f ulen
  by_cases h0 : c ≤ 127
  · rw [if_pos h0, if_pos h0]
  rw [if_neg h0, if_neg h0]
  by_cases h1 : c ≥ 192
  · rw [if_pos h1]
    by_cases h2 : c ≤ 223
    · rw [if_pos ⟨h1, h2⟩]
      simp only [PW.xansi_utf8ByteLen.j0, decide_eq_true h2, if_true]
    · rw [if_neg (fun h => h2 h.2)]
      simp only [PW.xansi_utf8ByteLen.j0, decide_eq_false h2]
      rw [if_neg (by decide), if_pos (show c ≥ 224 by omega)]
      by_cases h3 : c ≤ 239
      · rw [if_pos ⟨by omega, h3⟩]
        simp only [PW.xansi_utf8ByteLen.j1, decide_eq_true h3, if_true]
      · rw [if_neg (fun h => h3 h.2)]
        simp only [PW.xansi_utf8ByteLen.j1, decide_eq_false h3]
        rw [if_neg (by decide), if_pos (show c ≥ 240 by omega)]
        by_cases h4 : c ≤ 247
        · rw [if_pos h4, if_pos ⟨by omega, h4⟩]
        · rw [if_neg h4, if_neg (fun h => h4 h.2)]
  · rw [if_neg h1, if_neg (fun h => h1 h.1), if_neg (fun h => h1 (by omega)), if_neg (fun h => h1 (by omega))]
    simp only [PW.xansi_utf8ByteLen.j0]
    rw [if_neg (by decide), if_neg (show ¬ c ≥ 224 by omega)]
    simp only [PW.xansi_utf8ByteLen.j1]
    rw [if_neg (by decide), if_neg (show ¬ c ≥ 240 by omega)]
def low (p : PM) : Int := (Go.bits .and .i64 p.cmd 255) % 256
set_option maxHeartbeats 8000000 in
set_option maxRecDepth 100000 in
theorem advU_ (hs : Nat → Value) (B : Nat) (w0 w : World) (g gp gd n m : Nat) (p : PM) (h : PV hs B w0 w g gp gd n m p) (b : Int) (hb0 : 0 ≤ b) (hb1 : b < 256) (hnil : ∀ k, k < 9 → hs k = .nilFunc) (q : PM) (hq : q = pcollect p b) (hu : ulen (low q) ≠ -1) :
    Calls Tryd.prog 50 #[.pointer (some ⟨g, 0, none⟩), .int .u8 b] w fun e w' => e = .returned (.int .u8 (if (q.pl : Int) < ulen (low q) then 2 else 9)) ∧ PV hs B w0 w' g gp gd n m (if (q.pl : Int) < ulen (low q) then q else ⟨q.ps, q.da, q.dl, 0, q.cmd, 0⟩) := by
  have H1 := Aside0.mk h
  obtain ⟨kx, hk⟩ := ulen_f (low q)
  obtain ⟨u, hu0⟩ : ∃ u, u = ulen (low q) := ⟨_, rfl⟩
  rw [← hu0] at hk hu ⊢
  obtain ⟨rv, hrv⟩ : ∃ r : Int, r = if (q.pl : Int) < u then 2 else 9 := ⟨_, rfl⟩
  obtain ⟨rp, hrp⟩ : ∃ r : PM, r = if (q.pl : Int) < u then q else ⟨q.ps, q.da, q.dl, 0, q.cmd, 0⟩ := ⟨_, rfl⟩
  rw [← hrv, ← hrp]
  have HRV := Aside0.mk hrv
  have HRP := Aside0.mk hrp
  clear hrv hrp
  have HK := Aside0.mk hk
  have HQ := Aside0.mk hq
  have HB := Aside0.mk (show 0 ≤ b ∧ b < 256 from ⟨hb0, hb1⟩)
  have tu : (u == -1) = false := by simpa using hu
  have HNL := Aside0.mk hnil
  clear h hk hq hb0 hb1 hu hnil hu0
  go_enter Tryd.func50, Tryd.ntmps50
  go_wp2_with fail
  refine (collect_ hs B w0 w g gp gd n m p H1.out b HB.out.1 HB.out.2).mono ?_
  rintro e w1 ⟨rfl, h1⟩
  rw [← HQ.out] at h1
  have H2 := Aside0.mk h1
  have c13 := h1.c13
  clear h1 H1 HQ
  go_wp2_with fail
  refine (PW.xansi_utf8ByteLen.calls kx (low q) u w1 HK.out).mono ?_
  rintro e w2 ⟨rfl, hd⟩
  have H3 := Aside0.mk (H2.out.on hd.below)
  have c12 := H3.out.c12
  clear hd H2 c13
  by_cases hlt : (q.pl : Int) < u
  · have tl : decide ((q.pl : Int) < u) = true := decide_eq_true hlt
    have HV := Aside0.mk (show rv = 2 by rw [HRV.out, if_pos hlt])
    have HP := Aside0.mk (show rp = q by rw [HRP.out, if_pos hlt])
    clear hlt
    go_wp2
    go_ret
    exact ⟨by rw [HV.out]; rfl, by rw [HP.out]; exact H3.out⟩
  · have tl : decide ((q.pl : Int) < u) = false := decide_eq_false hlt
    have HV := Aside0.mk (show rv = 9 by rw [HRV.out, if_neg hlt])
    have HP := Aside0.mk (show rp = ⟨q.ps, q.da, q.dl, 0, q.cmd, 0⟩ by rw [HRP.out, if_neg hlt])
    have ch := (H3.out.ch 0 (by decide)).trans (congrArg some (HNL.out 0 (by decide)))
    have hz : ∀ w_ : World, (binOp .neq 83 .nilFunc .nilFunc).run Tryd.prog w_ = .ok (.bool false) w_ := fun w_ => by kernel_rfl
    have c14 := H3.out.c14
    have f14 := H3.out.free 14
    have H4 := H3.out.set_st 0
    have d12 := H4.c12
    have e12 := H4.free 12
    have H5 := Aside0.mk (H4.set_pl 0 0 rfl)
    clear hlt H4
    go_wp2
    go_ret
    exact ⟨by rw [HV.out]; rfl, by rw [HP.out]; exact H5.out⟩
noncomputable def pstep (n : Nat) (p : PM) (b : Int) : PM × Int :=
  if p.st = 14 then
    (if ((pcollect p b).pl : Int) < ulen (low (pcollect p b)) then (pcollect p b, 2) else (⟨(pcollect p b).ps, (pcollect p b).da, (pcollect p b).dl, 0, (pcollect p b).cmd, 0⟩, 9))
  else (padvG n (Ma.nx p.st b) (Ma.ac p.st b) p b, Ma.ac p.st b)
structure POk (n m : Nat) (p : PM) : Prop where
  s0 : 0 ≤ p.st
  s1 : p.st ≤ 14
  dl : p.dl ≤ m
  pl : p.pl ≤ n
  u : p.st = 14 → 1 ≤ p.pl ∧ p.pl ≤ 3 ∧ 194 ≤ low p ∧ low p ≤ 244
noncomputable def okB (i : Nat) (b : UInt8) : Bool :=
  decide (((b.toNat : Int) / 16 ≤ 9) ∧ (Go.bits .and .u8 (b.toNat : Int) 15 ≤ 14) ∧ ((b.toNat : Int) / 16 = 4 → 1 ≤ ((i / 256 : Nat) : Int) ∧ ((i / 256 : Nat) : Int) ≤ 13) ∧ ((b.toNat : Int) / 16 = 8 → 48 ≤ ((i % 256 : Nat) : Int) ∧ ((i % 256 : Nat) : Int) ≤ 59) ∧ (Go.bits .and .u8 (b.toNat : Int) 15 = 14 → (b.toNat : Int) / 16 = 2 ∧ 194 ≤ ((i % 256 : Nat) : Int) ∧ ((i % 256 : Nat) : Int) ≤ 244) ∧ ((b.toNat : Int) / 16 = 2 → Go.bits .and .u8 (b.toNat : Int) 15 ≠ 14 → 32 ≤ ((i % 256 : Nat) : Int)) ∧ 0 ≤ Go.bits .and .u8 (b.toNat : Int) 15)
noncomputable def chkB : Nat → List UInt8 → Bool
  | _, [] => true
  | i, b :: l => (decide (3584 ≤ i) || okB i b) && chkB (i + 1) l
theorem chkB_at : ∀ (l : List UInt8) (i k : Nat) (b : UInt8), chkB i l = true → l[k]? = some b → i + k < 3584 → okB (i + k) b = true := by
  intro l
  induction l with
  | nil => intro i k b _ h; simp at h
  | cons x l ih =>
    intro i k b hc h hk
    simp only [chkB, Bool.and_eq_true, Bool.or_eq_true, decide_eq_true_eq] at hc
    cases k with
    | zero =>
      simp only [List.getElem?_cons_zero, Option.some.injEq] at h
      subst h
      rcases hc.1 with h1 | h1
      · omega
      · simpa using h1
    | succ k =>
      have := ih (i + 1) k b hc.2 (by simpa using h) (by omega)
      rwa [show i + 1 + k = i + (k + 1) by omega] at this
set_option maxRecDepth 100000 in
theorem chkB_zz : chkB 0 Ma.zz.data.toList = true := by decide +kernel
structure Ent (st c : Int) : Prop where
  a0 : 0 ≤ Ma.ac st c
  a9 : Ma.ac st c ≤ 9
  n0 : 0 ≤ Ma.nx st c
  n14 : Ma.nx st c ≤ 14
  h4 : Ma.ac st c = 4 → 1 ≤ st ∧ st ≤ 13
  h8 : Ma.ac st c = 8 → 48 ≤ c ∧ c ≤ 59
  hu : Ma.nx st c = 14 → Ma.ac st c = 2 ∧ 194 ≤ c ∧ c ≤ 244
theorem ent_ok (st c : Int) (h0 : 0 ≤ st) (h1 : st < 14) (h2 : 0 ≤ c) (h3 : c < 256) : Ent st c := by
  have hlt : (st * 256 + c).toNat < Ma.zz.data.toList.length := by
    rw [Array.length_toList]
    show _ < Ma.zz.size
    rw [Ma.zz_size]
    omega
  have h := chkB_at Ma.zz.data.toList 0 (st * 256 + c).toNat _ chkB_zz (List.getElem?_eq_getElem hlt) (by omega)
  have e1 : (((0 + (st * 256 + c).toNat) / 256 : Nat) : Int) = st := by omega
  have e2 : (((0 + (st * 256 + c).toNat) % 256 : Nat) : Int) = c := by omega
  unfold okB at h
  rw [e1, e2] at h
  have h' := of_decide_eq_true h
  have en : Ma.nx st c = Go.bits .and .u8 (((Ma.zz.data.toList[(st * 256 + c).toNat]'hlt).toNat : Nat) : Int) 15 := by
    unfold Ma.nx Ma.ent
    rw [List.getD_eq_getElem?_getD, List.getElem?_eq_getElem hlt]
    rfl
  have ea : Ma.ac st c = (((Ma.zz.data.toList[(st * 256 + c).toNat]'hlt).toNat : Nat) : Int) / 16 := by
    unfold Ma.ac Ma.ent
    rw [List.getD_eq_getElem?_getD, List.getElem?_eq_getElem hlt]
    rfl
  rw [← en, ← ea] at h'
  obtain ⟨x1, x2, x3, x4, x5, _, x7⟩ := h'
  exact ⟨by rw [ea]; omega, x1, x7, x2, x3, x4, x5⟩
set_option maxHeartbeats 8000000 in
set_option maxRecDepth 100000 in
theorem Adv_ (hs : Nat → Value) (B : Nat) (w0 w : World) (g gp gd n m : Nat) (p : PM) (h : PV hs B w0 w g gp gd n m p) (b : Int) (hb0 : 0 ≤ b) (hb1 : b < 256) (hnil : ∀ k, k < 9 → hs k = .nilFunc) (hp : POk n m p) (hmn : m ≤ 1000000 ∧ n ≤ 1000000) (hu : p.st = 14 → ulen (low (pcollect p b)) ≠ -1) :
    Calls Tryd.prog 29 #[.pointer (some ⟨g, 0, none⟩), .int .u8 b] w fun e w' => e = .returned (.int .u8 (pstep n p b).2) ∧ PV hs B w0 w' g gp gd n m (pstep n p b).1 := by
  obtain ⟨rv, hrv⟩ : ∃ r : Int, r = (pstep n p b).2 := ⟨_, rfl⟩
  obtain ⟨rp, hrp⟩ : ∃ r : PM, r = (pstep n p b).1 := ⟨_, rfl⟩
  rw [← hrv, ← hrp]
  have H1 := Aside0.mk h
  have HRV := Aside0.mk hrv
  have HRP := Aside0.mk hrp
  have HB := Aside0.mk (show 0 ≤ b ∧ b < 256 from ⟨hb0, hb1⟩)
  have HNL := Aside0.mk hnil
  have HP := Aside0.mk hp
  have HMN := Aside0.mk hmn
  have HU := Aside0.mk hu
  have c14 := h.c14
  clear h hrv hrp hb0 hb1 hnil hp hmn hu
  by_cases hs14 : p.st = 14
  · have t14 : (p.st == 14) = true := by simpa using hs14
    have HS := Aside0.mk hs14
    have e : pstep n p b = (if ((pcollect p b).pl : Int) < ulen (low (pcollect p b)) then (pcollect p b, 2) else (⟨(pcollect p b).ps, (pcollect p b).da, (pcollect p b).dl, 0, (pcollect p b).cmd, 0⟩, 9)) := by unfold pstep; rw [if_pos hs14]
    have HA := Aside0.mk (advU_ hs B w0 w g gp gd n m p H1.out b HB.out.1 HB.out.2 HNL.out _ rfl (HU.out HS.out))
    obtain ⟨r2, hr2⟩ : ∃ r : Int, r = (if ((pcollect p b).pl : Int) < ulen (low (pcollect p b)) then 2 else 9) := ⟨_, rfl⟩
    obtain ⟨q2, hq2⟩ : ∃ q : PM, q = (if ((pcollect p b).pl : Int) < ulen (low (pcollect p b)) then pcollect p b else ⟨(pcollect p b).ps, (pcollect p b).da, (pcollect p b).dl, 0, (pcollect p b).cmd, 0⟩) := ⟨_, rfl⟩
    rw [← hr2, ← hq2] at HA
    have HVa := Aside0.mk (show rv = r2 by rw [HRV.out, e, hr2]; split <;> rfl)
    have HPa := Aside0.mk (show rp = q2 by rw [HRP.out, e, hq2]; split <;> rfl)
    clear hs14 e hr2 hq2 HRV HRP
    go_enter Tryd.func29, Tryd.ntmps29
    go_wp2_with fail
    refine HA.out.mono ?_
    rintro e w1 ⟨rfl, h1⟩
    have H2 := Aside0.mk h1
    clear h1
    go_wp2
    go_ret
    exact ⟨by rw [HVa.out]; rfl, by rw [HPa.out]; exact H2.out⟩
  · have t14 : (p.st == 14) = false := by simpa using hs14
    have hst : 0 ≤ p.st ∧ p.st < 14 := ⟨HP.out.s0, by have := HP.out.s1; omega⟩
    have he := ent_ok p.st b hst.1 hst.2 HB.out.1 HB.out.2
    have HA := Aside0.mk (adv_ hs B w0 w g gp gd n m p H1.out b (Ma.nx p.st b) (Ma.ac p.st b) HB.out.1 HB.out.2 ⟨he.a0, he.a9⟩ HNL.out ⟨HP.out.dl, HP.out.pl⟩ HMN.out ⟨he.h4, he.h8⟩ (fun w => Ma.trans p.st b hst.1 (by omega) HB.out.1 HB.out.2 w))
    have e : pstep n p b = (padvG n (Ma.nx p.st b) (Ma.ac p.st b) p b, Ma.ac p.st b) := by unfold pstep; rw [if_neg hs14]
    rw [e] at HRV HRP
    obtain ⟨a, ha⟩ : ∃ a, a = Ma.ac p.st b := ⟨_, rfl⟩
    rw [← ha] at HA HRV HRP
    obtain ⟨q, hq⟩ : ∃ q, q = padvG n (Ma.nx p.st b) a p b := ⟨_, rfl⟩
    rw [← hq] at HA HRP
    have eV := HRV.out
    have eP := HRP.out
    have HVa := Aside0.mk eV
    have HPa := Aside0.mk eP
    clear hs14 e ha hq he hst HRV HRP eV eP
    go_enter Tryd.func29, Tryd.ntmps29
    go_wp2_with fail
    refine HA.out.mono ?_
    rintro e w1 ⟨rfl, h1⟩
    have H2 := Aside0.mk h1
    clear h1
    go_wp2
    go_ret
    exact ⟨by rw [HVa.out]; rfl, by rw [HPa.out]; exact H2.out⟩
end Go.Proofs.YtmpmfdghdaofhaaDoor.Pm
