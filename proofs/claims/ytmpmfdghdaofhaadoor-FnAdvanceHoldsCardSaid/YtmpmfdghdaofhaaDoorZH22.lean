/- Texts of this claim, joined; what isn't needed is left out (wip/slim.py). -/
import Derived.Test.YtmpmfdghdaofhaaDoorZH17
import Derived.Test.YtmpmfdghdaofhaaDoorZH21
namespace Go.Proofs.YtmpmfdghdaofhaaDoor.Pm
set_option linter.unusedVariables false
set_option linter.unusedSimpArgs false
open Go Go.RowKit Go.Proofs.YtmpmfdghdaofhaaDoorW.PrintWords Go.Proofs.YtmpmfdghdaofhaaDoorW.PrintLast Go.Proofs.YtmpmfdghdaofhaaDoorW.PrintMore
theorem ofInt_wrap (x : BitVec 64) : BitVec.ofInt 64 (IntKind.i64.wrap (x.toNat : Int)) = x := by
  apply BitVec.eq_of_toNat_eq
  rw [BitVec.toNat_ofInt, IntKind.wrap_i64]
  have := x.isLt
  omega
theorem or_bv (x y : Int) : BitVec.ofInt 64 (Go.bits .or .i64 x y) = BitVec.ofInt 64 x ||| BitVec.ofInt 64 y := ofInt_wrap _
theorem andNot_bv (x y : Int) : BitVec.ofInt 64 (Go.bits .andNot .i64 x y) = BitVec.ofInt 64 x &&& ~~~(BitVec.ofInt 64 y) := ofInt_wrap _
theorem low_mod (n : Int) : Go.bits .and .i64 n 255 = n % 256 := by
  have h127 : (BitVec.ofInt 64 255).toNat = 2 ^ 8 - 1 := by decide
  have key : (BitVec.ofInt 64 n &&& BitVec.ofInt 64 255).toNat = (n % ((2 ^ 64 : Nat) : Int)).toNat % 2 ^ 8 := by
    rw [BitVec.toNat_and, BitVec.toNat_ofInt, h127, Nat.and_two_pow_sub_one_eq_mod]
  show IntKind.i64.wrap ((BitVec.ofInt 64 n &&& BitVec.ofInt 64 255).toNat : Nat) = n % 256
  rw [key, IntKind.wrap_i64]
  omega
theorem low_eq (x y : Int) (h : BitVec.ofInt 64 x &&& 255#64 = BitVec.ofInt 64 y &&& 255#64) : x % 256 = y % 256 := by
  rw [← low_mod, ← low_mod]
  unfold Go.bits
  exact congrArg (fun z : BitVec 64 => IntKind.i64.wrap (z.toNat : Int)) h
theorem low_or (x m y : Int) (k : BitVec 64) (hm : ~~~(BitVec.ofInt 64 m) &&& 255#64 = k) (z : Int) (hz : BitVec.ofInt 64 z &&& 255#64 = (BitVec.ofInt 64 x &&& k) ||| (BitVec.ofInt 64 y &&& 255#64)) : (Go.bits .or .i64 (Go.bits .andNot .i64 x m) y) % 256 = z % 256 := by
  apply low_eq
  rw [or_bv, andNot_bv, BitVec.and_or_distrib_right, BitVec.and_assoc, hm, hz]
theorem low_p (p : PM) : low p = p.cmd % 256 := by
  unfold low
  rw [low_mod]
  omega
theorem crc0 (cmd b : Int) (h0 : 0 ≤ b) (h1 : b < 256) : crc cmd 0 b % 256 = b := by
  have h := low_or cmd (wrap64 255) b 0#64 (by decide +kernel) b (by simp)
  show Go.bits .or .i64 (Go.bits .andNot .i64 cmd (wrap64 255)) b % 256 = b
  rw [h]
  omega
theorem sh_low (b : Int) (k : Nat) (hk : 256 ∣ k) (h0 : 0 ≤ b) (h1 : b < 256) (hk2 : k ≤ 16777216) : BitVec.ofInt 64 (wrap64 (b * (k : Int))) &&& 255#64 = 0#64 := by
  obtain ⟨q, rfl⟩ := hk
  have hw : wrap64 (b * ((256 * q : Nat) : Int)) = b * ((256 * q : Nat) : Int) := by
    have : b * ((256 * q : Nat) : Int) ≤ 255 * 16777216 := by
      refine Int.mul_le_mul (by omega) (by omega) (by omega) (by omega)
    have : 0 ≤ b * ((256 * q : Nat) : Int) := Int.mul_nonneg h0 (by omega)
    unfold wrap64
    omega
  rw [hw]
  apply BitVec.eq_of_toNat_eq
  rw [BitVec.toNat_and, BitVec.toNat_ofInt, show (255#64).toNat = 2 ^ 8 - 1 by decide, Nat.and_two_pow_sub_one_eq_mod, show (0#64).toNat = 0 by decide]
  have : b * ((256 * q : Nat) : Int) = 256 * (b * (q : Int)) := by rw [Int.natCast_mul, Int.mul_left_comm]; rfl
  rw [this]
  omega
theorem crcS (cmd b : Int) (k : Nat) (hk : k ≠ 0) (h0 : 0 ≤ b) (h1 : b < 256) : crc cmd k b % 256 = cmd % 256 := by
  match k, hk with
  | 1, _ => exact low_or cmd (wrap64 65280) (wrap64 (b * 256)) 255#64 (by decide +kernel) cmd (by rw [show (256 : Int) = ((256 : Nat) : Int) from rfl, sh_low b 256 (by decide) h0 h1 (by decide)]; simp)
  | 2, _ => exact low_or cmd (wrap64 16711680) (wrap64 (b * 65536)) 255#64 (by decide +kernel) cmd (by rw [show (65536 : Int) = ((65536 : Nat) : Int) from rfl, sh_low b 65536 (by decide) h0 h1 (by decide)]; simp)
  | (k + 3), _ => exact low_or cmd (wrap64 4278190080) (wrap64 (b * 16777216)) 255#64 (by decide +kernel) cmd (by rw [show (16777216 : Int) = ((16777216 : Nat) : Int) from rfl, sh_low b 16777216 (by decide) h0 h1 (by decide)]; simp)
theorem low_cS (p : PM) (b : Int) (h : p.pl ≠ 0) (h0 : 0 ≤ b) (h1 : b < 256) : low (pcollect p b) = low p := by
  rw [low_p, low_p]
  unfold pcollect
  by_cases h4 : p.pl < 4
  · rw [if_pos h4]
    exact crcS _ _ _ h h0 h1
  · rw [if_neg h4]
theorem ulen_p (c : Int) (h0 : 194 ≤ c) (h1 : c ≤ 244) : ulen c = Sp.plen c := by
  unfold ulen Sp.plen
  rw [if_neg (by omega)]
  by_cases h2 : c < 224
  · rw [if_pos ⟨by omega, by omega⟩, if_pos h2]
  · rw [if_neg (by omega), if_neg h2]
    by_cases h3 : c < 240
    · rw [if_pos ⟨by omega, by omega⟩, if_pos h3]
    · rw [if_neg (by omega), if_neg h3, if_pos ⟨by omega, by omega⟩]
theorem plen_range (c : Int) : 2 ≤ Sp.plen c ∧ Sp.plen c ≤ 4 := by
  unfold Sp.plen
  split
  · omega
  · split <;> omega
structure Le (n m : Nat) (p : PM) : Prop where
  dl : p.dl ≤ m
  da : p.da.length = m
  pl : p.pl ≤ n
theorem le_clear {n m : Nat} {p : PM} (h : Le n m p) : Le n m (pclear p) := ⟨h.dl, h.da, Nat.zero_le _⟩
theorem le_start {n m : Nat} {p : PM} (b : Int) (h : Le n m p) : Le n m (pstart p b) := ⟨Nat.zero_le _, h.da, h.pl⟩
theorem le_collect {n m : Nat} {p : PM} (b : Int) (h : Le n m p) (hn : 4 ≤ n) : Le n m (pcollect p b) := by
  unfold pcollect
  split
  · exact ⟨h.dl, h.da, by show p.pl + 1 ≤ n; omega⟩
  · exact h
theorem le_disp {n m : Nat} {p : PM} (b : Int) (h : Le n m p) : Le n m (pdisp n p b) := by
  refine ⟨h.dl, h.da, ?_⟩
  show (if pdq n p then p.pl + 1 else p.pl) ≤ n
  have := h.pl
  split
  · rename_i hq
    unfold pdq at hq
    have := of_decide_eq_true hq
    omega
  · exact h.pl
theorem le_put {n m : Nat} {p : PM} (b : Int) (h : Le n m p) : Le n m (pput p b) := by
  unfold pput
  split
  · rename_i hl
    exact ⟨by have := h.da; show p.dl + 1 ≤ m; omega, by show (p.da.set p.dl b).length = m; rw [List.length_set]; exact h.da, h.pl⟩
  · exact ⟨h.dl, h.da, h.pl⟩
theorem le_param {n m : Nat} {p : PM} (b : Int) (h : Le n m p) : Le n m (pparam n p b) := by
  unfold pparam
  split
  · exact h
  · rename_i hl
    split
    · exact ⟨h.dl, h.da, h.pl⟩
    · split
      · exact ⟨h.dl, h.da, by show p.pl + 1 ≤ n; omega⟩
      · exact ⟨h.dl, h.da, by show p.pl + 1 ≤ n; omega⟩
theorem le_act {n m : Nat} {p : PM} (a st2 b : Int) (h : Le n m p) (hn : 4 ≤ n) : Le n m (pact n a st2 p b) := by
  unfold pact
  repeat' split
  · exact h
  · exact le_clear h
  · exact le_collect b (p := { p with pl := 0 }) ⟨h.dl, h.da, Nat.zero_le _⟩ hn
  · exact ⟨h.dl, h.da, h.pl⟩
  · exact ⟨h.dl, h.da, h.pl⟩
  · exact le_disp b h
  · exact ⟨h.dl, h.da, h.pl⟩
  · exact le_start b h
  · exact le_put b h
  · exact le_param b h
  · exact ⟨h.dl, h.da, h.pl⟩
theorem le_mid {n m : Nat} {p : PM} (n2 a : Int) (h : Le n m p) : Le n m (pmid n2 a p) := by
  unfold pmid
  repeat' split
  · exact h
  · exact le_clear h
  · exact le_start 0 h
  · exact h
theorem le_adv {n m : Nat} {p : PM} (n2 a b : Int) (h : Le n m p) (hn : 4 ≤ n) : Le n m (padvG n n2 a p b) := by
  have hm := le_mid n2 a h
  unfold padvG
  split
  · exact ⟨hm.dl, hm.da, hm.pl⟩
  · have := le_act a n2 b hm hn
    exact ⟨this.dl, this.da, this.pl⟩
theorem adv14 (n : Nat) (p : PM) (b : Int) (h0 : 194 ≤ b) (h1 : b ≤ 244) : (padvG n 14 2 p b).pl = 1 ∧ low (padvG n 14 2 p b) = b := by
  have e : ∀ q : PM, (padvG n 14 2 p b).pl = 1 ∧ (padvG n 14 2 p b).cmd = crc (pmid 14 2 p).cmd 0 b := by
    intro q
    unfold padvG
    rw [if_neg (fun h => by omega)]
    unfold pact
    rw [if_neg (by decide), if_neg (by decide), if_pos rfl, if_pos rfl]
    unfold pcollect
    rw [if_pos (show (0 : Nat) < 4 by decide)]
    exact ⟨rfl, rfl⟩
  refine ⟨(e p).1, ?_⟩
  rw [low_p, (e p).2]
  exact crc0 _ _ (by omega) (by omega)
theorem well (n m : Nat) (hn : 4 ≤ n) : Well n m where
  ok := fun p b hp hda h0 h1 => by
    have hle : Le n m p := ⟨hp.dl, hda, hp.pl⟩
    unfold pstep
    by_cases h14 : p.st = 14
    · rw [if_pos h14]
      have hu := hp.u h14
      have hc := le_collect b hle hn
      have epl : (pcollect p b).pl = p.pl + 1 := by unfold pcollect; rw [if_pos (by omega)]
      have est : (pcollect p b).st = p.st := by unfold pcollect; rw [if_pos (by omega)]
      have elo := low_cS p b (by omega) h0 h1
      split
      · rename_i hlt
        rw [elo, ulen_p _ hu.2.2.1 hu.2.2.2] at hlt
        have := (plen_range (low p)).2
        exact ⟨by show 0 ≤ (pcollect p b).st; omega, by show (pcollect p b).st ≤ 14; omega, hc.dl, hc.pl, fun _ => ⟨by show 1 ≤ (pcollect p b).pl; omega, by show (pcollect p b).pl ≤ 3; omega, by show 194 ≤ low (pcollect p b); omega, by show low (pcollect p b) ≤ 244; omega⟩⟩
      · exact ⟨Int.le_refl 0, by show (0 : Int) ≤ 14; decide, hc.dl, Nat.zero_le _, fun h => absurd (show (0 : Int) = 14 from h) (by decide)⟩
    · rw [if_neg h14]
      have he := ent_ok p.st b hp.s0 (by have := hp.s1; omega) h0 h1
      have hl := le_adv (Ma.nx p.st b) (Ma.ac p.st b) b hle hn
      refine ⟨?_, ?_, hl.dl, hl.pl, ?_⟩
      · show 0 ≤ Ma.nx p.st b
        exact he.n0
      · show Ma.nx p.st b ≤ 14
        exact he.n14
      · intro h
        have hx : Ma.nx p.st b = 14 := h
        obtain ⟨ha, hb0, hb1⟩ := he.hu hx
        show 1 ≤ (padvG n (Ma.nx p.st b) (Ma.ac p.st b) p b).pl ∧ (padvG n (Ma.nx p.st b) (Ma.ac p.st b) p b).pl ≤ 3 ∧ 194 ≤ low (padvG n (Ma.nx p.st b) (Ma.ac p.st b) p b) ∧ low (padvG n (Ma.nx p.st b) (Ma.ac p.st b) p b) ≤ 244
        rw [hx, ha]
        have e := adv14 n p b hb0 hb1
        rw [e.1, e.2]
        exact ⟨Nat.le_refl 1, by decide, hb0, hb1⟩
  act := fun p b hp h0 h1 => by
    unfold pstep
    by_cases h14 : p.st = 14
    · rw [if_pos h14]
      split
      · exact ⟨by show (0 : Int) ≤ 2; decide, by show (2 : Int) ≤ 9; decide⟩
      · exact ⟨by show (0 : Int) ≤ 9; decide, by show (9 : Int) ≤ 9; decide⟩
    · rw [if_neg h14]
      have he := ent_ok p.st b hp.s0 (by have := hp.s1; omega) h0 h1
      exact ⟨he.a0, he.a9⟩
  u := fun p b hp h0 h1 h14 => by
    have hu := hp.u h14
    rw [low_cS p b (by omega) h0 h1, ulen_p _ hu.2.2.1 hu.2.2.2]
    have := (plen_range (low p)).1
    omega
end Go.Proofs.YtmpmfdghdaofhaaDoor.Pm

namespace Go.Proofs.YtmpmfdghdaofhaaDoor.Pm
set_option linter.unusedVariables false
set_option linter.unusedSimpArgs false
open Go Go.RowKit Go.Proofs.YtmpmfdghdaofhaaDoorW.PrintWords Go.Proofs.YtmpmfdghdaofhaaDoorW.PrintLast Go.Proofs.YtmpmfdghdaofhaaDoorW.PrintMore
structure OU where
  a : Int
  st : Int
  cmd : Int
  ps : List Int
  da : List Int
def Held (w : World) (B : Nat) (ok : Nat → Prop) (e : List Value) (q : OU) : Prop :=
  ∃ v2 v3 vi vo : Value, e = [.int .i64 q.a, .int .i64 q.st, v2, v3, .int .i64 q.cmd, vi, vo] ∧ Kd.R (Kd.int .i64) 2 w B ok vi q.ps ∧ Kd.R (Kd.int .u8) 5 w B ok vo q.da
def HeldAll (w : World) (B : Nat) (ok : Nat → Prop) (xs : List (List Value)) (qs : List OU) : Prop :=
  xs.length = qs.length ∧ ∀ (i : Nat) (e : List Value) (q : OU), xs[i]? = some e → qs[i]? = some q → Held w B ok e q
theorem HeldAll.on {w w' : World} {B B' : Nat} {ok ok' : Nat → Prop} {xs : List (List Value)} {qs : List OU} (h : HeldAll w B ok xs qs) (hh : ∀ e q, Held w B ok e q → Held w' B' ok' e q) : HeldAll w' B' ok' xs qs :=
  ⟨h.1, fun i e q he hq => hh e q (h.2 i e q he hq)⟩
theorem HeldAll.below {w w' : World} {B : Nat} {ok : Nat → Prop} {xs : List (List Value)} {qs : List OU} (h : HeldAll w B ok xs qs) (hb : Below w.heap.size w w') : HeldAll w' B ok xs qs :=
  h.on (fun e q ⟨v2, v3, vi, vo, he, h1, h2⟩ => ⟨v2, v3, vi, vo, he, Kd.R_below h1 hb, Kd.R_below h2 hb⟩)
theorem HeldAll.far {w w' : World} {B g gp gd : Nat} {xs : List (List Value)} {qs : List OU} (h : HeldAll w B (Ok3 g gp gd) xs qs) (hf : Far3 w w' g gp gd) : HeldAll w' B (Ok3 g gp gd) xs qs :=
  h.on (fun e q ⟨v2, v3, vi, vo, he, h1, h2⟩ => ⟨v2, v3, vi, vo, he, row_far h1 hf, row_far h2 hf⟩)
theorem HeldAll.grown {w w' : World} {B : Nat} {ok : Nat → Prop} {xs ys : List (List Value)} {qs : List OU} {v : Value} (h : HeldAll w B ok xs qs) (hr : Kd.R (Kd.raw 7) 37 w B ok v ys) (hg : w.grownBy w' v.ownBlock) : HeldAll w' B ok xs qs :=
  h.on (fun e q ⟨v2, v3, vi, vo, he, h1, h2⟩ => ⟨v2, v3, vi, vo, he, Kd.R_grown2 h1 rfl hg (far2 hr h1 rfl rfl (by decide)), Kd.R_grown2 h2 rfl hg (far2 hr h2 rfl rfl (by decide))⟩)
theorem HeldAll.wide {w : World} {B B' : Nat} {ok : Nat → Prop} {xs : List (List Value)} {qs : List OU} (h : HeldAll w B ok xs qs) (hB : B' ≤ B) : HeldAll w B' (fun _ => True) xs qs :=
  h.on (fun e q ⟨v2, v3, vi, vo, he, h1, h2⟩ => ⟨v2, v3, vi, vo, he, Kd.R_lower (Kd.R_mono h1 (fun _ _ => trivial)) hB, Kd.R_lower (Kd.R_mono h2 (fun _ _ => trivial)) hB⟩)
theorem HeldAll.snoc {w : World} {B : Nat} {ok : Nat → Prop} {xs : List (List Value)} {qs : List OU} (h : HeldAll w B ok xs qs) {e : List Value} {q : OU} (hh : Held w B ok e q) : HeldAll w B ok (xs ++ [e]) (qs ++ [q]) := by
  refine ⟨by rw [List.length_append, List.length_append, h.1]; rfl, fun i e' q' he hq => ?_⟩
  by_cases hi : i < xs.length
  · rw [List.getElem?_append_left hi] at he
    rw [List.getElem?_append_left (by have := h.1; omega)] at hq
    exact h.2 i e' q' he hq
  · rw [List.getElem?_append_right (by omega)] at he
    rw [List.getElem?_append_right (by have := h.1; omega)] at hq
    have hz : i - xs.length = 0 := by
      rcases Nat.eq_zero_or_pos (i - xs.length) with h0 | h0
      · exact h0
      · rw [List.getElem?_eq_none (by simp; omega)] at he
        cases he
    rw [hz] at he
    rw [show i - qs.length = 0 by have := h.1; omega] at hq
    simp only [List.getElem?_cons_zero, Option.some.injEq] at he hq
    subst he hq
    exact hh
def ou (r : PM × Int) : OU := ⟨r.2, r.1.st, r.1.cmd, r.1.ps.take r.1.pl, r.1.da.take r.1.dl⟩
noncomputable def prunS (n : Nat) : PM → List Int → List OU
  | _, [] => []
  | p, b :: l => ou (pstep n p b) :: prunS n (pstep n p b).1 l
theorem prunS_cons (n : Nat) (p : PM) (b : Int) (l : List Int) : prunS n p (b :: l) = ou (pstep n p b) :: prunS n (pstep n p b).1 l := rfl
theorem ints_is (l : List Int) (hl : l.length ≤ 1000000) : ∃ k, PI.impl_ints.f k l = some l := by
  have key : ∀ (m i : Nat) (acc : List Int), i + m = l.length → acc = l.take i → ∃ k, PI.impl_ints.l0 k acc l (l.length : Int) (i : Int) = some l := by
    intro m
    induction m with
    | zero =>
      intro i acc hi ha
      refine ⟨1, ?_⟩
      unfold PI.impl_ints.l0
      rw [if_neg (by omega), ha, List.take_of_length_le (by omega)]
    | succ m ih =>
      intro i acc hi ha
      have hal : acc.length = i := by rw [ha, List.length_take]; omega
      have hr : rd l (i : Int) = l[i]'(by omega) := by
        unfold rd
        rw [Int.toNat_natCast, List.getD_eq_getElem?_getD, List.getElem?_eq_getElem (by omega)]
        rfl
      obtain ⟨k, h⟩ := ih (i + 1) (acc ++ [rd l (i : Int)]) (by omega) (by rw [ha, hr, List.take_add_one, List.getElem?_eq_getElem (by omega)]; rfl)
      refine ⟨k + 1, ?_⟩
      unfold PI.impl_ints.l0
      rw [if_pos (by omega), if_pos (by omega), if_pos (by omega), if_pos (by rw [hal]; omega), show wrap64 ((i : Int) + 1) = ((i + 1 : Nat) : Int) by unfold wrap64; omega]
      exact h
  exact key l.length 0 [] (by omega) rfl
set_option maxHeartbeats 16000000 in
set_option maxRecDepth 100000 in
theorem advanceS_ (w : World) (A : Option Addr) (c n m : Nat) (l : List Int) (hr : Kd.C (Kd.int .u8) w A l.length l) (hc : l.length ≤ c) (hl : l.length ≤ 1000) (hb : ∀ x ∈ l, 0 ≤ x ∧ x < 256) (hn : 4 ≤ n ∧ n ≤ 4096) (hm : 1 ≤ m ∧ m ≤ 65536) (hw : Well n m) (hT : Lib.Utf8Tabs 0 1 w) :
    Calls Tryd.prog 12 #[.int .i64 (n : Int), .int .i64 (m : Int), .slice A l.length c] w fun e w' => ∃ v xs, e = .returned v ∧ Kd.R (Kd.raw 7) 37 w' w.heap.size (fun _ => True) v xs ∧ HeldAll w' w.heap.size (fun _ => True) xs (prunS n (p0 n m) l) ∧ Below w.heap.size w w' := by
  have t1 : decide ((n : Int) < 4) = false := decide_eq_false (by omega)
  have t2 : decide (4096 < (n : Int)) = false := decide_eq_false (by omega)
  have t3 : decide ((m : Int) < 1) = false := decide_eq_false (by omega)
  have t4 : decide (65536 < (m : Int)) = false := decide_eq_false (by omega)
  have HR := Aside0.mk hr
  have HC := Aside0.mk hc
  have HLL := Aside0.mk hl
  have HBY := Aside0.mk hb
  have HN := Aside0.mk hn
  have HM := Aside0.mk hm
  have HW := Aside0.mk hw
  have HT := Aside0.mk hT
  have q1 : ¬ n < 4 := by omega
  have q2 : ¬ 4096 < n := by omega
  have q3 : ¬ m < 1 := by omega
  have q4 : ¬ 65536 < m := by omega
  clear hr hc hl hb hn hm hw hT
  go_enter Tryd.func12, Tryd.ntmps12
  go_wp2_with fail
  refine (newParserG w n m (by have := HN.out; omega) (by have := HM.out; omega) (by have := HM.out; omega)).mono ?_
  rintro e w1 ⟨g, gp, gd0, rfl, hpv, hb1⟩
  have H1 := Aside0.mk hpv
  have B1 := Aside0.mk hb1
  clear hpv hb1
  go_wp2_with fail
  refine (setDataG w1 w.heap.size g m _ _ m m H1.out.bc rfl H1.out.hg B1.out.size (by have := HM.out; omega) (by have := HM.out; omega)).mono ?_
  rintro e w2 ⟨rfl, gd, hgd, h3, hd3, hb3, hf3⟩
  have H2 := Aside0.mk (show PV (fun _ => .nilFunc) w.heap.size w2 w2 g gp gd n m (p0 n m) from ⟨h3.trans rfl, hf3 gp 3 _ H1.out.bp (by decide), hd3, List.length_replicate, List.length_replicate, Below.refl _ _, Far3.refl _ _ _ _, H1.out.hg, H1.out.hgp, Nat.le_trans B1.out.size hgd⟩)
  have B2 := Aside0.mk (B1.out.trans hb3)
  clear h3 hd3 hb3 hf3 hgd H1
  go_wp2_with fail
  refine (PI.impl_own.calls A c l l w2 (Kd.C_below HR.out B2.out) HC.out (by unfold PI.impl_own.f; rw [if_pos (by have := HLL.out; show 0 + l.length < _; omega)]; rfl)).mono ?_
  rintro e w3 ⟨vb, rfl, hrb, hb3⟩
  obtain ⟨Ab, cb, eb⟩ : ∃ A c, vb = .slice A l.length c := Kd.R_slice hrb
  subst eb
  have RB := Aside0.mk (row_new rfl hrb (blk_lt H2.out.bc) (blk_lt H2.out.bp) (blk_lt H2.out.bd))
  have H3 := Aside0.mk (H2.out.on hb3).rebase
  have B3 := Aside0.mk (below_step B2.out hb3)
  have SZ := Aside0.mk (show w.heap.size ≤ w2.heap.size from B2.out.size)
  clear hrb hb3 H2 B2 B1
  obtain ⟨L, hL⟩ : ∃ L, L = l.length := ⟨_, rfl⟩
  rw [← hL] at RB
  have HL := Aside0.mk hL
  obtain ⟨base, hbase⟩ : ∃ b, b = w2.heap.size := ⟨_, rfl⟩
  rw [← hbase] at RB SZ
  have HLK := Aside0.mk (show l.length = L from hL.symm)
  simp only [← hL]
  clear hL hbase
  go_wp2_with fail
  go_loopw [8, 35] (fun v8 v35 wr => ∃ (J : Int) (k : Nat) (p : PM) (xs : List (List Value)) (acc : List OU), v35 = .int .i64 J ∧ Aside0 (J = (k : Int)) ∧ Aside0 (k ≤ L) ∧ Aside0 (PV (fun _ => .nilFunc) w.heap.size wr wr g gp gd n m p) ∧ Aside0 (POk n m p) ∧ Aside0 (Kd.R (Kd.int .u8) 5 wr base (Ok3 g gp gd) (.slice Ab L cb) l) ∧ Aside0 (Kd.R (Kd.raw 7) 37 wr base (Ok3 g gp gd) v8 xs) ∧ Aside0 (xs.length = k) ∧ Aside0 (HeldAll wr base (Ok3 g gp gd) xs acc) ∧ Aside0 (acc ++ prunS n p (l.drop k) = prunS n (p0 n m) l) ∧ Aside0 (Below w.heap.size w wr)) (fun _ v35 _ => L - (intOf v35).toNat)
  case atStart => exact ⟨0, 0, p0 n m, [], [], rfl, ⟨rfl⟩, ⟨Nat.zero_le _⟩, H3, ⟨p0_ok n m⟩, RB, ⟨Kd.R_nil _ _ _ _ _⟩, ⟨rfl⟩, ⟨rfl, fun i e q h => by simp at h⟩, ⟨rfl⟩, B3⟩
  case round =>
    clear H3 RB B3
    obtain ⟨J, k, p, xs, acc, rfl, HJ, HK, H, HP, RB, RO, HX, HH, HA, HB⟩ := hrel
    have hwr : wrap64 (J + 1) = J + 1 := by have := HJ.out; have := HK.out; have := HLL.out; have := HLK.out; unfold wrap64; omega
    by_cases hlt : k < L
    · have hj := HJ.out
      have tlt : decide (J < (L : Int)) = true := decide_eq_true (by omega)
      have z0 : 0 ≤ J := by omega
      have z1 : J < (L : Int) := by omega
      obtain ⟨ad, e0, hx⟩ := Kd.at_int (Kd.R_reads' RB.out).2.2 J z0 (by have := HLK.out; omega)
      cases e0
      obtain ⟨b, hbv⟩ : ∃ b, b = rd l J := ⟨_, rfl⟩
      rw [← hbv] at hx
      obtain rfl : J = (k : Int) := hj
      rw [Int.toNat_natCast] at hx
      have hkl : k < l.length := by rw [HLK.out]; exact hlt
      have hbm : b ∈ l := by
        rw [hbv]
        unfold rd
        rw [Int.toNat_natCast, List.getD_eq_getElem?_getD, List.getElem?_eq_getElem hkl]
        exact List.getElem_mem hkl
      have hdr : l.drop k = b :: l.drop (k + 1) := by
        rw [List.drop_eq_getElem_cons hkl, hbv]
        unfold rd
        rw [Int.toNat_natCast, List.getD_eq_getElem?_getD, List.getElem?_eq_getElem hkl]
        rfl
      have hbb := HBY.out b hbm
      obtain ⟨p1, hp1⟩ : ∃ q, q = (pstep n p b).1 := ⟨_, rfl⟩
      obtain ⟨a, ha⟩ : ∃ a, a = (pstep n p b).2 := ⟨_, rfl⟩
      have HPK := Aside0.mk (show POk n m p1 by rw [hp1]; exact HW.out.ok p b HP.out H.out.hm hbb.1 hbb.2)
      have haa := HW.out.act p b HP.out hbb.1 hbb.2
      rw [← ha] at haa
      have hwa : wrap64 a = a := by unfold wrap64; omega
      have hws : wrap64 p1.st = p1.st := by have h0 := HPK.out.s0; have h1 := HPK.out.s1; unfold wrap64; omega
      have HADV := Aside0.mk (Adv_ (fun _ => .nilFunc) w.heap.size wr wr g gp gd n m p H.out b hbb.1 hbb.2 (fun _ _ => rfl) HP.out (by have := HM.out; have := HN.out; omega) (HW.out.u p b HP.out hbb.1 hbb.2))
      rw [← hp1, ← ha] at HADV
      obtain ⟨q, hq⟩ : ∃ q, q = ou (pstep n p b) := ⟨_, rfl⟩
      have HA2 := Aside0.mk (show (acc ++ [q]) ++ prunS n p1 (l.drop (k + 1)) = prunS n (p0 n m) l by
        have h_ := HA.out
        rw [hdr, prunS_cons, ← hp1, ← hq] at h_
        rw [List.append_assoc]
        exact h_)
      have HQQ := Aside0.mk (show q = ⟨a, p1.st, p1.cmd, p1.ps.take p1.pl, p1.da.take p1.dl⟩ by rw [hq, hp1, ha]; rfl)
      clear hbv hbm hdr hbb hp1 ha haa hq
      go_wp2_with fail
      refine HADV.out.mono ?_
      rintro e w1 ⟨rfl, hv⟩
      have G1 := Aside0.mk hv.rebase
      have RB1 := Aside0.mk (row_far RB.out hv.f)
      have RO1 := Aside0.mk (row_far RO.out hv.f)
      have HH1 := Aside0.mk (HH.out.far hv.f)
      have HB1 := Aside0.mk (HB.out.trans hv.b)
      clear hv H RB RO HB hx HH
      go_wp2_with fail
      refine (state_ _ _ _ _ _ _ _ _ _ _ G1.out).mono ?_
      rintro e w4 ⟨rfl, hb4⟩
      have G4 := Aside0.mk (G1.out.on hb4).rebase
      have RB4 := Aside0.mk (Kd.R_below RB1.out hb4)
      have RO4 := Aside0.mk (Kd.R_below RO1.out hb4)
      have HH4 := Aside0.mk (HH1.out.below hb4)
      have HB4 := Aside0.mk (below_step HB1.out hb4)
      clear hb4 G1 RB1 RO1 HB1
      go_wp2_with fail
      refine (control_ _ _ _ _ _ _ _ _ _ _ G4.out).mono ?_
      rintro e w5 ⟨rfl, hb5⟩
      have G5 := Aside0.mk (G4.out.on hb5).rebase
      have RB5 := Aside0.mk (Kd.R_below RB4.out hb5)
      have RO5 := Aside0.mk (Kd.R_below RO4.out hb5)
      have HH5 := Aside0.mk (HH4.out.below hb5)
      have HB5 := Aside0.mk (below_step HB4.out hb5)
      clear hb5 G4 RB4 RO4 HB4
      go_wp2_with fail
      refine (rune_ _ _ _ _ _ _ _ _ _ _ G5.out (Utf8Tabs_below HT.out HB5.out)).mono ?_
      rintro e w6 ⟨rn, rfl, hb6⟩
      have G6 := Aside0.mk (G5.out.on hb6).rebase
      have RB6 := Aside0.mk (Kd.R_below RB5.out hb6)
      have RO6 := Aside0.mk (Kd.R_below RO5.out hb6)
      have HH6 := Aside0.mk (HH5.out.below hb6)
      have HB6 := Aside0.mk (below_step HB5.out hb6)
      clear hb6 G5 RB5 RO5 HB5
      go_wp2_with fail
      refine (command_ _ _ _ _ _ _ _ _ _ _ G6.out).mono ?_
      rintro e w7 ⟨rfl, hb7⟩
      have G7 := Aside0.mk (G6.out.on hb7).rebase
      have RB7 := Aside0.mk (Kd.R_below RB6.out hb7)
      have RO7 := Aside0.mk (Kd.R_below RO6.out hb7)
      have HH7 := Aside0.mk (HH6.out.below hb7)
      have HB7 := Aside0.mk (below_step HB6.out hb7)
      clear hb7 G6 RB6 RO6 HB6
      go_wp2_with fail
      refine (params_ _ _ _ _ _ _ _ _ _ _ G7.out HPK.out.pl (by have := HN.out; omega)).mono ?_
      rintro e w8 ⟨vp, rfl, hrp, hb8⟩
      obtain ⟨qs, hqs⟩ : ∃ q, q = p1.ps.take p1.pl := ⟨_, rfl⟩
      have HQ1 := Aside0.mk hqs
      rw [← hqs] at hrp
      have HQS := Aside0.mk (show qs.length ≤ 1000000 by rw [hqs, List.length_take]; have := HPK.out.pl; have := HN.out; omega)
      clear hqs
      obtain ⟨Ap, cp, ep⟩ := Kd.R_slice hrp
      subst ep
      have RP := Aside0.mk hrp
      have G8 := Aside0.mk (G7.out.on hb8).rebase
      have RB8 := Aside0.mk (Kd.R_below RB7.out hb8)
      have RO8 := Aside0.mk (Kd.R_below RO7.out hb8)
      have HH8 := Aside0.mk (HH7.out.below hb8)
      have HB8 := Aside0.mk (below_step HB7.out hb8)
      clear hrp hb8 G7 RB7 RO7 HB7
      obtain ⟨ki, hi⟩ := ints_is qs HQS.out
      have HI := Aside0.mk hi
      clear hi
      go_wp2_with fail
      refine (PI.impl_ints.calls ki Ap cp qs qs w8 (Kd.R_reads' RP.out).2.2 (Kd.R_reads' RP.out).2.1 HI.out).mono ?_
      rintro e w9 ⟨vi, rfl, hri, hb9⟩
      obtain ⟨Ai, ci, ei⟩ := Kd.R_slice hri
      subst ei
      have SZ8 := Aside0.mk (show base ≤ w8.heap.size from by
        obtain ⟨g_, c_, _, h1, h2, _⟩ := Kd.R_form RB8.out (by rw [HLK.out]; omega)
        omega)
      have RVI9 := Aside0.mk (Kd.R_lower (row_new rfl hri (blk_lt G8.out.bc) (blk_lt G8.out.bp) (blk_lt G8.out.bd)) SZ8.out)
      have G9 := Aside0.mk (G8.out.on hb9).rebase
      have RB9 := Aside0.mk (Kd.R_below RB8.out hb9)
      have RO9 := Aside0.mk (Kd.R_below RO8.out hb9)
      have HH9 := Aside0.mk (HH8.out.below hb9)
      have HB9 := Aside0.mk (below_step HB8.out hb9)
      clear hri hb9 G8 RB8 RO8 HB8 RP HI
      go_wp2_with fail
      refine (data_ _ _ _ _ _ _ _ _ _ _ G9.out HPK.out.dl).mono ?_
      rintro e w10 ⟨rfl, hb10⟩
      have G10 := Aside0.mk (G9.out.on hb10).rebase
      have RB10 := Aside0.mk (Kd.R_below RB9.out hb10)
      have RO10 := Aside0.mk (Kd.R_below RO9.out hb10)
      have HH10 := Aside0.mk (HH9.out.below hb10)
      have RVI10 := Aside0.mk (Kd.R_below RVI9.out hb10)
      have HB10 := Aside0.mk (below_step HB9.out hb10)
      clear hb10 G9 RB9 RO9 HB9
      have HOWN := Aside0.mk (show Calls Tryd.prog 28 #[.slice (some ⟨gd, 0, none⟩) p1.dl m] w10 fun e w' => ∃ v, e = .returned v ∧ Kd.R (Kd.int .u8) 5 w' w10.heap.size (fun _ => True) v (p1.da.take p1.dl) ∧ Below w10.heap.size w10 w' from by
        have hdl := HPK.out.dl
        have hda : p1.da.length = m := G10.out.hm
        have h_ := PI.impl_own.calls (some ⟨gd, 0, none⟩) m (p1.da.take p1.dl) (p1.da.take p1.dl) w10 (by rw [List.length_take, Nat.min_eq_left (by omega)]; exact C_cellsD G10.out.bd p1.dl (by omega) (by have := HM.out; omega)) (by rw [List.length_take]; omega) (by unfold PI.impl_own.f; rw [if_pos (by show 0 + (p1.da.take p1.dl).length < _; rw [List.length_take]; have := HM.out; omega)]; rfl)
        rw [show (p1.da.take p1.dl).length = p1.dl by rw [List.length_take]; omega] at h_
        refine h_.mono ?_
        rintro e w' ⟨v, rfl, hrv, hbv⟩
        exact ⟨_, rfl, hrv, hbv⟩)
      go_wp2_with fail
      refine HOWN.out.mono ?_
      rintro e w11 ⟨vo, rfl, hro, hb11⟩
      obtain ⟨Ao, co, eo⟩ := Kd.R_slice hro
      subst eo
      obtain ⟨ko, hko⟩ : ∃ k, k = (p1.da.take p1.dl).length := ⟨_, rfl⟩
      rw [← hko] at hro ⊢
      have SZ10 := Aside0.mk (show base ≤ w10.heap.size from by
        obtain ⟨g_, c_, _, h1, h2, _⟩ := Kd.R_form RB10.out (by rw [HLK.out]; omega)
        omega)
      have RVO11 := Aside0.mk (Kd.R_lower (row_new rfl hro (blk_lt G10.out.bc) (blk_lt G10.out.bp) (blk_lt G10.out.bd)) SZ10.out)
      have G11 := Aside0.mk (G10.out.on hb11).rebase
      have RB11 := Aside0.mk (Kd.R_below RB10.out hb11)
      have RO11 := Aside0.mk (Kd.R_below RO10.out hb11)
      have HH11 := Aside0.mk (HH10.out.below hb11)
      have RVI11 := Aside0.mk (Kd.R_below RVI10.out hb11)
      have HB11 := Aside0.mk (below_step HB10.out hb11)
      have SZ11 := Aside0.mk (show base ≤ w11.heap.size from by
        obtain ⟨g_, c_, _, h1, h2, _⟩ := Kd.R_form RB11.out (by rw [HLK.out]; omega)
        omega)
      clear hb11 G10 RB10 RO10 HB10 HOWN hro hko
      go_wp2_with (first | ((with_reducible refine gate_builtin (b := .append) (xs := #[.tmp 42, .tmp 62]) rfl ?_); at_builtin; refine Kd.R_append (Kd.raw 7) (w0 := w11) base rfl (.tmp 42) (.tmp 62) 29 37 (.agg #[.int .i64 0, .int .i64 0, .int .u8 0, .int .i64 0, .int .i64 0, .slice none 0 0, .slice none 0 0]) 88 rfl Tryd.underlying29 info37 rfl (by decide) (by omega) u8 xs [.int .i64 a, .int .i64 p1.st, .int .u8 (low p1), .int .i64 (wrap64 rn), .int .i64 p1.cmd, .slice Ai qs.length ci, .slice Ao ko co] [.int .i64 a, .int .i64 p1.st, .int .u8 (low p1), .int .i64 (wrap64 rn), .int .i64 p1.cmd, .slice Ai qs.length ci, .slice Ao ko co] (Ok3 g gp gd) (fun _ => False) rfl rfl ?aP (fun _ hk => hk.elim) ?aF ?aO ?aB ?aS ?aL ?_; (case aP => exact ⟨rfl, rfl, fun u hu => by simp at hu; rcases hu with rfl | rfl | rfl | rfl | rfl | rfl | rfl <;> rfl⟩); (case aF => exact (fun k hk => ⟨fun e => by (have := blk_lt G11.out.bc; omega), fun e => by (have := blk_lt G11.out.bp; omega), fun e => by (have := blk_lt G11.out.bd; omega)⟩)); (case aO => exact RO11.out); (case aB => exact Below.refl _ _); (case aS => exact SZ11.out); (case aL => have := HX.out; have := HLL.out; have := HLK.out; omega); intro v1 w12 ho hb hg hat; have HO12 := Aside0.mk ho; have HBB := Aside0.mk hb; have HG := Aside0.mk hg; clear ho hb hg hat) | fail)
      go_roundw
      case rel =>
        refine ⟨_, k + 1, p1, _, acc ++ [q], rfl, ⟨by first | rfl | (rw [hwr]; rfl)⟩, ⟨by omega⟩, ⟨G11.out.grown HG.out (Kd.R_away RO11.out (fun k hk => hk.1)) (Kd.R_away RO11.out (fun k hk => hk.2.1)) (Kd.R_away RO11.out (fun k hk => hk.2.2))⟩, HPK, ⟨Kd.R_grown2 RB11.out rfl HG.out (far2 RO11.out RB11.out rfl rfl (by decide))⟩, HO12, ⟨by rw [List.length_append, HX.out]; rfl⟩, ⟨(HH11.out.grown RO11.out HG.out).snoc ⟨.int .u8 (low p1), .int .i64 (wrap64 rn), .slice Ai qs.length ci, .slice Ao ko co, by rw [HQQ.out], by rw [HQQ.out, ← HQ1.out]; exact Kd.R_grown2 RVI11.out rfl HG.out (far2 RO11.out RVI11.out rfl rfl (by decide)), by rw [HQQ.out]; exact Kd.R_grown2 RVO11.out rfl HG.out (far2 RO11.out RVO11.out rfl rfl (by decide))⟩⟩, HA2, ⟨HB11.out.trans (HBB.out.mono SZ.out)⟩⟩
      case measure =>
        (try rw [hwr])
        simp [intOf]
        omega
    · have tlt : decide (J < (L : Int)) = false := decide_eq_false (by have := HJ.out; omega)
      have hk : k = L := by have := HK.out; have := HJ.out; omega
      have HF := Aside0.mk (show acc = prunS n (p0 n m) l by
        have h_ := HA.out
        rw [hk, ← HLK.out, List.drop_length] at h_
        rw [← h_]
        exact (List.append_nil acc).symm)
      clear hk
      go_wp2
      go_ret
      exact ⟨_, xs, rfl, Kd.R_lower (Kd.R_mono RO.out (fun _ _ => trivial)) SZ.out, by rw [← HF.out]; exact HH.out.wide SZ.out, HB.out⟩
end Go.Proofs.YtmpmfdghdaofhaaDoor.Pm
