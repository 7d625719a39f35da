/- Texts of this claim, joined; what isn't needed is left out (wip/slim.py). -/
import Derived.Test.YtmpmfdghdaofhaaDoorZ17
import Derived.Test.YtmpmfdghdaofhaaDoorZ21
namespace Go.Proofs.YtmpmfdghdaofhaaDoor.Pm
set_option linter.unusedVariables false
set_option linter.unusedSimpArgs false
open Go Go.RowKit Go.Proofs.YtmpmfdghdaofhaaDoorW.PrintWords Go.Proofs.YtmpmfdghdaofhaaDoorW.PrintLast Go.Proofs.YtmpmfdghdaofhaaDoorW.PrintMore
theorem ofInt_wrap (x : BitVec 64) : BitVec.ofInt 64 (IntKind.i64.wrap (x.toNat : Int)) = x := by
  apply BitVec.eq_of_toNat_eq
  rw [BitVec.toNat_ofInt, IntKind.wrap_i64]
  have := x.isLt
  omega
theorem or_bv (x y : Int) : BitVec.ofInt 64 (Go.bits .or .i64 x y) = BitVec.ofInt 64 x ||| BitVec.ofInt 64 y := ofInt_wrap _
theorem andNot_bv (x y : Int) : BitVec.ofInt 64 (Go.bits .andNot .i64 x y) = BitVec.ofInt 64 x &&& ~~~(BitVec.ofInt 64 y) := ofInt_wrap _
theorem low_mod (n : Int) : Go.bits .and .i64 n 255 = n % 256 := by
  have h127 : (BitVec.ofInt 64 255).toNat = 2 ^ 8 - 1 := by decide
  have key : (BitVec.ofInt 64 n &&& BitVec.ofInt 64 255).toNat = (n % ((2 ^ 64 : Nat) : Int)).toNat % 2 ^ 8 := by
    rw [BitVec.toNat_and, BitVec.toNat_ofInt, h127, Nat.and_two_pow_sub_one_eq_mod]
  show IntKind.i64.wrap ((BitVec.ofInt 64 n &&& BitVec.ofInt 64 255).toNat : Nat) = n % 256
  rw [key, IntKind.wrap_i64]
  omega
theorem low_eq (x y : Int) (h : BitVec.ofInt 64 x &&& 255#64 = BitVec.ofInt 64 y &&& 255#64) : x % 256 = y % 256 := by
  rw [← low_mod, ← low_mod]
  unfold Go.bits
  exact congrArg (fun z : BitVec 64 => IntKind.i64.wrap (z.toNat : Int)) h
theorem low_or (x m y : Int) (k : BitVec 64) (hm : ~~~(BitVec.ofInt 64 m) &&& 255#64 = k) (z : Int) (hz : BitVec.ofInt 64 z &&& 255#64 = (BitVec.ofInt 64 x &&& k) ||| (BitVec.ofInt 64 y &&& 255#64)) : (Go.bits .or .i64 (Go.bits .andNot .i64 x m) y) % 256 = z % 256 := by
  apply low_eq
  rw [or_bv, andNot_bv, BitVec.and_or_distrib_right, BitVec.and_assoc, hm, hz]
theorem low_p (p : PM) : low p = p.cmd % 256 := by
  unfold low
  rw [low_mod]
  omega
theorem crc0 (cmd b : Int) (h0 : 0 ≤ b) (h1 : b < 256) : crc cmd 0 b % 256 = b := by
  have h := low_or cmd (wrap64 255) b 0#64 (by decide +kernel) b (by simp)
  show Go.bits .or .i64 (Go.bits .andNot .i64 cmd (wrap64 255)) b % 256 = b
  rw [h]
  omega
theorem sh_low (b : Int) (k : Nat) (hk : 256 ∣ k) (h0 : 0 ≤ b) (h1 : b < 256) (hk2 : k ≤ 16777216) : BitVec.ofInt 64 (wrap64 (b * (k : Int))) &&& 255#64 = 0#64 := by
  obtain ⟨q, rfl⟩ := hk
  have hw : wrap64 (b * ((256 * q : Nat) : Int)) = b * ((256 * q : Nat) : Int) := by
    have : b * ((256 * q : Nat) : Int) ≤ 255 * 16777216 := by
      refine Int.mul_le_mul (by omega) (by omega) (by omega) (by omega)
    have : 0 ≤ b * ((256 * q : Nat) : Int) := Int.mul_nonneg h0 (by omega)
    unfold wrap64
    omega
  rw [hw]
  apply BitVec.eq_of_toNat_eq
  rw [BitVec.toNat_and, BitVec.toNat_ofInt, show (255#64).toNat = 2 ^ 8 - 1 by decide, Nat.and_two_pow_sub_one_eq_mod, show (0#64).toNat = 0 by decide]
  have : b * ((256 * q : Nat) : Int) = 256 * (b * (q : Int)) := by rw [Int.natCast_mul, Int.mul_left_comm]; rfl
  rw [this]
  omega
theorem crcS (cmd b : Int) (k : Nat) (hk : k ≠ 0) (h0 : 0 ≤ b) (h1 : b < 256) : crc cmd k b % 256 = cmd % 256 := by
  match k, hk with
  | 1, _ => exact low_or cmd (wrap64 65280) (wrap64 (b * 256)) 255#64 (by decide +kernel) cmd (by rw [show (256 : Int) = ((256 : Nat) : Int) from rfl, sh_low b 256 (by decide) h0 h1 (by decide)]; simp)
  | 2, _ => exact low_or cmd (wrap64 16711680) (wrap64 (b * 65536)) 255#64 (by decide +kernel) cmd (by rw [show (65536 : Int) = ((65536 : Nat) : Int) from rfl, sh_low b 65536 (by decide) h0 h1 (by decide)]; simp)
  | (k + 3), _ => exact low_or cmd (wrap64 4278190080) (wrap64 (b * 16777216)) 255#64 (by decide +kernel) cmd (by rw [show (16777216 : Int) = ((16777216 : Nat) : Int) from rfl, sh_low b 16777216 (by decide) h0 h1 (by decide)]; simp)
theorem low_cS (p : PM) (b : Int) (h : p.pl ≠ 0) (h0 : 0 ≤ b) (h1 : b < 256) : low (pcollect p b) = low p := by
  rw [low_p, low_p]
  unfold pcollect
  by_cases h4 : p.pl < 4
  · rw [if_pos h4]
    exact crcS _ _ _ h h0 h1
  · rw [if_neg h4]
theorem ulen_p (c : Int) (h0 : 194 ≤ c) (h1 : c ≤ 244) : ulen c = Sp.plen c := by
  unfold ulen Sp.plen
  rw [if_neg (by omega)]
  by_cases h2 : c < 224
  · rw [if_pos ⟨by omega, by omega⟩, if_pos h2]
  · rw [if_neg (by omega), if_neg h2]
    by_cases h3 : c < 240
    · rw [if_pos ⟨by omega, by omega⟩, if_pos h3]
    · rw [if_neg (by omega), if_neg h3, if_pos ⟨by omega, by omega⟩]
theorem plen_range (c : Int) : 2 ≤ Sp.plen c ∧ Sp.plen c ≤ 4 := by
  unfold Sp.plen
  split
  · omega
  · split <;> omega
structure Le (n m : Nat) (p : PM) : Prop where
  dl : p.dl ≤ m
  da : p.da.length = m
  pl : p.pl ≤ n
theorem le_clear {n m : Nat} {p : PM} (h : Le n m p) : Le n m (pclear p) := ⟨h.dl, h.da, Nat.zero_le _⟩
theorem le_start {n m : Nat} {p : PM} (b : Int) (h : Le n m p) : Le n m (pstart p b) := ⟨Nat.zero_le _, h.da, h.pl⟩
theorem le_collect {n m : Nat} {p : PM} (b : Int) (h : Le n m p) (hn : 4 ≤ n) : Le n m (pcollect p b) := by
  unfold pcollect
  split
  · exact ⟨h.dl, h.da, by show p.pl + 1 ≤ n; omega⟩
  · exact h
theorem le_disp {n m : Nat} {p : PM} (b : Int) (h : Le n m p) : Le n m (pdisp n p b) := by
  refine ⟨h.dl, h.da, ?_⟩
  show (if pdq n p then p.pl + 1 else p.pl) ≤ n
  have := h.pl
  split
  · rename_i hq
    unfold pdq at hq
    have := of_decide_eq_true hq
    omega
  · exact h.pl
theorem le_put {n m : Nat} {p : PM} (b : Int) (h : Le n m p) : Le n m (pput p b) := by
  unfold pput
  split
  · rename_i hl
    exact ⟨by have := h.da; show p.dl + 1 ≤ m; omega, by show (p.da.set p.dl b).length = m; rw [List.length_set]; exact h.da, h.pl⟩
  · exact ⟨h.dl, h.da, h.pl⟩
theorem le_param {n m : Nat} {p : PM} (b : Int) (h : Le n m p) : Le n m (pparam n p b) := by
  unfold pparam
  split
  · exact h
  · rename_i hl
    split
    · exact ⟨h.dl, h.da, h.pl⟩
    · split
      · exact ⟨h.dl, h.da, by show p.pl + 1 ≤ n; omega⟩
      · exact ⟨h.dl, h.da, by show p.pl + 1 ≤ n; omega⟩
theorem le_act {n m : Nat} {p : PM} (a st2 b : Int) (h : Le n m p) (hn : 4 ≤ n) : Le n m (pact n a st2 p b) := by
  unfold pact
  repeat' split
  · exact h
  · exact le_clear h
  · exact le_collect b (p := { p with pl := 0 }) ⟨h.dl, h.da, Nat.zero_le _⟩ hn
  · exact ⟨h.dl, h.da, h.pl⟩
  · exact ⟨h.dl, h.da, h.pl⟩
  · exact le_disp b h
  · exact ⟨h.dl, h.da, h.pl⟩
  · exact le_start b h
  · exact le_put b h
  · exact le_param b h
  · exact ⟨h.dl, h.da, h.pl⟩
theorem le_mid {n m : Nat} {p : PM} (n2 a : Int) (h : Le n m p) : Le n m (pmid n2 a p) := by
  unfold pmid
  repeat' split
  · exact h
  · exact le_clear h
  · exact le_start 0 h
  · exact h
theorem le_adv {n m : Nat} {p : PM} (n2 a b : Int) (h : Le n m p) (hn : 4 ≤ n) : Le n m (padvG n n2 a p b) := by
  have hm := le_mid n2 a h
  unfold padvG
  split
  · exact ⟨hm.dl, hm.da, hm.pl⟩
  · have := le_act a n2 b hm hn
    exact ⟨this.dl, this.da, this.pl⟩
theorem adv14 (n : Nat) (p : PM) (b : Int) (h0 : 194 ≤ b) (h1 : b ≤ 244) : (padvG n 14 2 p b).pl = 1 ∧ low (padvG n 14 2 p b) = b := by
  have e : ∀ q : PM, (padvG n 14 2 p b).pl = 1 ∧ (padvG n 14 2 p b).cmd = crc (pmid 14 2 p).cmd 0 b := by
    intro q
    unfold padvG
    rw [if_neg (fun h => by omega)]
    unfold pact
    rw [if_neg (by decide), if_neg (by decide), if_pos rfl, if_pos rfl]
    unfold pcollect
    rw [if_pos (show (0 : Nat) < 4 by decide)]
    exact ⟨rfl, rfl⟩
  refine ⟨(e p).1, ?_⟩
  rw [low_p, (e p).2]
  exact crc0 _ _ (by omega) (by omega)
theorem well (n m : Nat) (hn : 4 ≤ n) : Well n m where
  ok := fun p b hp hda h0 h1 => by
    have hle : Le n m p := ⟨hp.dl, hda, hp.pl⟩
    unfold pstep
    by_cases h14 : p.st = 14
    · rw [if_pos h14]
      have hu := hp.u h14
      have hc := le_collect b hle hn
      have epl : (pcollect p b).pl = p.pl + 1 := by unfold pcollect; rw [if_pos (by omega)]
      have est : (pcollect p b).st = p.st := by unfold pcollect; rw [if_pos (by omega)]
      have elo := low_cS p b (by omega) h0 h1
      split
      · rename_i hlt
        rw [elo, ulen_p _ hu.2.2.1 hu.2.2.2] at hlt
        have := (plen_range (low p)).2
        exact ⟨by show 0 ≤ (pcollect p b).st; omega, by show (pcollect p b).st ≤ 14; omega, hc.dl, hc.pl, fun _ => ⟨by show 1 ≤ (pcollect p b).pl; omega, by show (pcollect p b).pl ≤ 3; omega, by show 194 ≤ low (pcollect p b); omega, by show low (pcollect p b) ≤ 244; omega⟩⟩
      · exact ⟨Int.le_refl 0, by show (0 : Int) ≤ 14; decide, hc.dl, Nat.zero_le _, fun h => absurd (show (0 : Int) = 14 from h) (by decide)⟩
    · rw [if_neg h14]
      have he := ent_ok p.st b hp.s0 (by have := hp.s1; omega) h0 h1
      have hl := le_adv (Ma.nx p.st b) (Ma.ac p.st b) b hle hn
      refine ⟨?_, ?_, hl.dl, hl.pl, ?_⟩
      · show 0 ≤ Ma.nx p.st b
        exact he.n0
      · show Ma.nx p.st b ≤ 14
        exact he.n14
      · intro h
        have hx : Ma.nx p.st b = 14 := h
        obtain ⟨ha, hb0, hb1⟩ := he.hu hx
        show 1 ≤ (padvG n (Ma.nx p.st b) (Ma.ac p.st b) p b).pl ∧ (padvG n (Ma.nx p.st b) (Ma.ac p.st b) p b).pl ≤ 3 ∧ 194 ≤ low (padvG n (Ma.nx p.st b) (Ma.ac p.st b) p b) ∧ low (padvG n (Ma.nx p.st b) (Ma.ac p.st b) p b) ≤ 244
        rw [hx, ha]
        have e := adv14 n p b hb0 hb1
        rw [e.1, e.2]
        exact ⟨Nat.le_refl 1, by decide, hb0, hb1⟩
  act := fun p b hp h0 h1 => by
    unfold pstep
    by_cases h14 : p.st = 14
    · rw [if_pos h14]
      split
      · exact ⟨by show (0 : Int) ≤ 2; decide, by show (2 : Int) ≤ 9; decide⟩
      · exact ⟨by show (0 : Int) ≤ 9; decide, by show (9 : Int) ≤ 9; decide⟩
    · rw [if_neg h14]
      have he := ent_ok p.st b hp.s0 (by have := hp.s1; omega) h0 h1
      exact ⟨he.a0, he.a9⟩
  u := fun p b hp h0 h1 h14 => by
    have hu := hp.u h14
    rw [low_cS p b (by omega) h0 h1, ulen_p _ hu.2.2.1 hu.2.2.2]
    have := (plen_range (low p)).1
    omega
noncomputable def sstep (n : Nat) (D : Int) (s : Sp.SM) (b : Int) : Sp.SM × Int :=
  if s.st = 14 then
    (⟨s.ps, s.da, s.pt ++ [b], s.cnt, s.cmd, if ((s.pt.length + 1 : Nat) : Int) < Sp.plen (rd (s.pt ++ [b]) 0) then 14 else 0⟩, if ((s.pt.length + 1 : Nat) : Int) < Sp.plen (rd (s.pt ++ [b]) 0) then 2 else 9)
  else (Sp.sadvG n D (Ma.nx s.st b) (Ma.ac s.st b) s b, Ma.ac s.st b)
structure Sim (n m : Nat) (p : PM) (s : Sp.SM) : Prop where
  ok : POk n m p
  da : p.da.length = m
  st : p.st = s.st
  cnt : s.cnt ≤ n
  pt : s.st = 14 → s.pt.length = p.pl ∧ rd s.pt 0 = low p
theorem cnt_disp {n : Nat} {s : Sp.SM} (b : Int) (h : s.cnt ≤ n) : (Sp.sdisp n s b).cnt ≤ n := by
  show (if Sp.sdq n s then s.cnt + 1 else s.cnt) ≤ n
  split
  · rename_i hq
    unfold Sp.sdq at hq
    have := of_decide_eq_true hq
    omega
  · exact h
theorem cnt_param {n : Nat} {s : Sp.SM} (b : Int) (h : s.cnt ≤ n) : (Sp.sparam n s b).cnt ≤ n := by
  unfold Sp.sparam
  repeat' split
  all_goals first | exact h | (show s.cnt + 1 ≤ n; omega)
theorem cnt_act {n : Nat} {s : Sp.SM} (D a nx b : Int) (h : s.cnt ≤ n) : (Sp.sact n D a nx s b).cnt ≤ n := by
  unfold Sp.sact
  repeat' split
  · exact h
  · exact Nat.zero_le _
  · exact h
  · exact h
  · exact h
  · exact cnt_disp b h
  · exact h
  · exact h
  · exact h
  · exact cnt_param b h
  · exact h
theorem cnt_adv {n : Nat} {s : Sp.SM} (D a nx b : Int) (h : s.cnt ≤ n) : (Sp.sadvG n D nx a s b).cnt ≤ n := by
  have hm := Nat.le_trans (Sp.smid_cnt nx a s) h
  unfold Sp.sadvG
  split
  · exact h
  · exact cnt_act D a nx b hm
theorem sadv_st (n : Nat) (D b : Int) (s : Sp.SM) : (Sp.sadvG n D (Ma.nx s.st b) (Ma.ac s.st b) s b).st = Ma.nx s.st b := by
  unfold Sp.sadvG
  split
  · rename_i h
    show s.st = _
    rw [h.2.1]
    exact h.1
  · rfl
theorem sadv_pt (n : Nat) (D b : Int) (s : Sp.SM) (h : Ma.nx s.st b = 14) (ha : Ma.ac s.st b = 2) : (Sp.sadvG n D (Ma.nx s.st b) (Ma.ac s.st b) s b).pt = [b] := by
  rw [h, ha]
  unfold Sp.sadvG
  rw [if_neg (fun h => absurd h.2.1 (by decide))]
  show (Sp.sact n D 2 14 (Sp.smid 14 2 s) b).pt = [b]
  unfold Sp.sact
  rw [if_neg (by decide), if_neg (by decide), if_pos rfl, if_pos rfl]
  rfl
theorem rd_snoc (l : List Int) (b : Int) (h : 0 < l.length) : rd (l ++ [b]) 0 = rd l 0 := by
  cases l with
  | nil => simp at h
  | cons a t => rfl
theorem sim (n m : Nat) (D : Int) (hn : 4 ≤ n) (p : PM) (s : Sp.SM) (b : Int) (h : Sim n m p s) (h0 : 0 ≤ b) (h1 : b < 256) : Sim n m (pstep n p b).1 (sstep n D s b).1 ∧ (pstep n p b).2 = (sstep n D s b).2 := by
  have hok := (well n m hn).ok p b h.ok h.da h0 h1
  have hda : (pstep n p b).1.da.length = m := by
    have hle : Le n m p := ⟨h.ok.dl, h.da, h.ok.pl⟩
    have hc := (le_collect b hle hn).da
    have ha := (le_adv (Ma.nx p.st b) (Ma.ac p.st b) b hle hn).da
    unfold pstep
    split
    · split
      · exact hc
      · exact hc
    · exact ha
  by_cases h14 : p.st = 14
  · have hu := h.ok.u h14
    have hs : s.st = 14 := by rw [← h.st]; exact h14
    have hp := h.pt hs
    have epl : (pcollect p b).pl = p.pl + 1 := by unfold pcollect; rw [if_pos (by omega)]
    have est : (pcollect p b).st = p.st := by unfold pcollect; rw [if_pos (by omega)]
    have elo := low_cS p b (by omega) h0 h1
    have erd := rd_snoc s.pt b (by omega)
    have eP : pstep n p b = (if ((pcollect p b).pl : Int) < ulen (low (pcollect p b)) then (pcollect p b, 2) else (⟨(pcollect p b).ps, (pcollect p b).da, (pcollect p b).dl, 0, (pcollect p b).cmd, 0⟩, 9)) := by unfold pstep; rw [if_pos h14]
    have eS : sstep n D s b = (⟨s.ps, s.da, s.pt ++ [b], s.cnt, s.cmd, if ((s.pt.length + 1 : Nat) : Int) < Sp.plen (rd (s.pt ++ [b]) 0) then 14 else 0⟩, if ((s.pt.length + 1 : Nat) : Int) < Sp.plen (rd (s.pt ++ [b]) 0) then 2 else 9) := by unfold sstep; rw [if_pos hs]
    rw [eP] at hok hda ⊢
    rw [eS]
    have ec : (((pcollect p b).pl : Int) < ulen (low (pcollect p b))) ↔ (((s.pt.length + 1 : Nat) : Int) < Sp.plen (rd (s.pt ++ [b]) 0)) := by
      rw [epl, elo, ulen_p _ hu.2.2.1 hu.2.2.2, erd, hp.2, hp.1]
    by_cases hlt : ((pcollect p b).pl : Int) < ulen (low (pcollect p b))
    · rw [if_pos hlt] at hok hda ⊢
      rw [if_pos (ec.1 hlt), if_pos (ec.1 hlt)]
      refine ⟨⟨hok, hda, by show (pcollect p b).st = 14; rw [est]; exact h14, h.cnt, fun _ => ⟨?_, ?_⟩⟩, rfl⟩
      · show (s.pt ++ [b]).length = (pcollect p b).pl
        rw [epl, List.length_append, hp.1]
        rfl
      · show rd (s.pt ++ [b]) 0 = low (pcollect p b)
        rw [erd, elo, hp.2]
    · rw [if_neg hlt] at hok hda ⊢
      rw [if_neg (fun hh => hlt (ec.2 hh)), if_neg (fun hh => hlt (ec.2 hh))]
      exact ⟨⟨hok, hda, rfl, h.cnt, fun hh => absurd (show (0 : Int) = 14 from hh) (by decide)⟩, rfl⟩
  · have hs : ¬ s.st = 14 := by rw [← h.st]; exact h14
    have he := ent_ok p.st b h.ok.s0 (by have := h.ok.s1; omega) h0 h1
    have eP : pstep n p b = (padvG n (Ma.nx p.st b) (Ma.ac p.st b) p b, Ma.ac p.st b) := by unfold pstep; rw [if_neg h14]
    have eS : sstep n D s b = (Sp.sadvG n D (Ma.nx s.st b) (Ma.ac s.st b) s b, Ma.ac s.st b) := by unfold sstep; rw [if_neg hs]
    rw [eP] at hok hda ⊢
    rw [eS]
    refine ⟨⟨hok, hda, ?_, cnt_adv D _ _ b h.cnt, ?_⟩, ?_⟩
    · show Ma.nx p.st b = (Sp.sadvG n D (Ma.nx s.st b) (Ma.ac s.st b) s b).st
      rw [sadv_st, h.st]
    · intro hx
      rw [show ((Sp.sadvG n D (Ma.nx s.st b) (Ma.ac s.st b) s b, Ma.ac s.st b) : Sp.SM × Int).1 = Sp.sadvG n D (Ma.nx s.st b) (Ma.ac s.st b) s b from rfl] at hx ⊢
      rw [sadv_st] at hx
      rw [← h.st] at hx
      obtain ⟨ha, hb0, hb1⟩ := he.hu hx
      have e := adv14 n p b hb0 hb1
      rw [sadv_pt n D b s (by rw [← h.st]; exact hx) (by rw [← h.st]; exact ha)]
      show ([b] : List Int).length = (padvG n (Ma.nx p.st b) (Ma.ac p.st b) p b).pl ∧ rd [b] 0 = low (padvG n (Ma.nx p.st b) (Ma.ac p.st b) p b)
      rw [hx, ha, e.1, e.2]
      exact ⟨rfl, rfl⟩
    · show Ma.ac p.st b = Ma.ac s.st b
      rw [h.st]
theorem sim0 (n m : Nat) : Sim n m (p0 n m) (Sp.s0 n) := ⟨p0_ok n m, List.length_replicate, rfl, Nat.zero_le _, fun h => absurd (show (0 : Int) = 14 from h) (by decide)⟩
end Go.Proofs.YtmpmfdghdaofhaaDoor.Pm
