/- Texts of this claim, joined; what isn't needed is left out (wip/slim.py). -/
import Derived.Test.YtmpmfdghdaofhaaDoorZH22
import Derived.Test.YtmpmfdghdaofhaaDoorZH23
namespace Go.Proofs.YtmpmfdghdaofhaaDoor.Pm
set_option linter.unusedVariables false
set_option linter.unusedSimpArgs false
open Go Go.RowKit Go.Proofs.YtmpmfdghdaofhaaDoorW.PrintWords Go.Proofs.YtmpmfdghdaofhaaDoorW.PrintLast Go.Proofs.YtmpmfdghdaofhaaDoorW.PrintMore
def view (p : PM) (pt : List Int) : Sp.SM := ⟨p.ps, p.da.take p.dl, pt, p.pl, p.cmd, p.st⟩
theorem v_mid (nx a : Int) (p : PM) (pt : List Int) : Sp.smid nx a (view p pt) = view (pmid nx a p) pt := by
  unfold Sp.smid pmid
  show (if p.st = 8 then (if nx = 8 then view p pt else Sp.sclear (view p pt)) else if p.st = 4 ∧ nx = 7 ∧ a = 7 then Sp.sstart (view p pt) 0 else view p pt) = _
  by_cases h8 : p.st = 8
  · rw [if_pos h8]
    by_cases hn : nx = 8
    · rw [if_pos hn, if_pos (by rw [h8, hn])]
    · rw [if_neg hn, if_neg (by rw [h8]; exact fun h => hn h.symm), if_pos h8]
      rfl
  · rw [if_neg h8]
    by_cases h4 : p.st = 4 ∧ nx = 7 ∧ a = 7
    · rw [if_pos h4, if_neg (by omega), if_neg h8, if_pos ⟨h4.2.2, h4.1, h4.2.1⟩]
      unfold Sp.sstart pstart view
      rw [List.take_zero]
    · rw [if_neg h4]
      by_cases hs : p.st = nx
      · rw [if_pos hs]
      · rw [if_neg hs, if_neg h8, if_neg (fun h => h4 ⟨h.2.1, h.2.2, h.1⟩)]
theorem v_put (m : Nat) (p : PM) (pt : List Int) (b : Int) (hm : 1 ≤ m) (hda : p.da.length = m) (hdl : p.dl ≤ m) : Sp.sput (m : Int) (view p pt) b = view (pput p b) pt := by
  unfold Sp.sput pput
  have hc : Sp.sputc (view p pt) b = putc p b := rfl
  have hl : (p.da.take p.dl).length = p.dl := by rw [List.length_take]; omega
  by_cases h : p.dl < p.da.length
  · rw [if_pos h, hc]
    show (⟨p.ps, if (m : Int) ≤ 0 ∨ ((p.da.take p.dl).length : Int) < (m : Int) then p.da.take p.dl ++ [b] else p.da.take p.dl, pt, p.pl, putc p b, p.st⟩ : Sp.SM) = ⟨p.ps, (p.da.set p.dl b).take (p.dl + 1), pt, p.pl, putc p b, p.st⟩
    rw [if_pos (by rw [hl]; omega)]
    rw [List.take_add_one, List.take_set, List.set_eq_of_length_le (by omega), List.getElem?_set_self h]
    rfl
  · rw [if_neg h, hc]
    show (⟨p.ps, if (m : Int) ≤ 0 ∨ ((p.da.take p.dl).length : Int) < (m : Int) then p.da.take p.dl ++ [b] else p.da.take p.dl, pt, p.pl, putc p b, p.st⟩ : Sp.SM) = ⟨p.ps, p.da.take p.dl, pt, p.pl, putc p b, p.st⟩
    rw [if_neg (by rw [hl]; omega)]
theorem v_param (n : Nat) (p : PM) (pt : List Int) (b : Int) (hb : 48 ≤ b ∧ b ≤ 59) : Sp.sparam n (view p pt) b = view (pparam n p b) pt := by
  unfold Sp.sparam pparam
  show (if n ≤ p.pl then view p pt else if 48 ≤ b ∧ b ≤ 57 then _ else if b = 58 then _ else _) = _
  by_cases h1 : n ≤ p.pl
  · rw [if_pos h1, if_pos h1]
  · rw [if_neg h1, if_neg h1]
    by_cases h2 : b ≤ 57
    · rw [if_pos ⟨hb.1, h2⟩, if_pos h2]
      rfl
    · rw [if_neg (fun h => h2 h.2), if_neg h2]
      by_cases h3 : b = 58
      · rw [if_pos h3, if_pos h3]
        rfl
      · rw [if_neg h3, if_neg h3]
        rfl
theorem v_act (n m : Nat) (a nx : Int) (p : PM) (pt : List Int) (b : Int) (hm : 1 ≤ m) (hda : p.da.length = m) (hdl : p.dl ≤ m) (hnx : nx ≠ 14) (h8 : a = 8 → 48 ≤ b ∧ b ≤ 59) : Sp.sact n (m : Int) a nx (view p pt) b = view (pact n a nx p b) pt := by
  unfold Sp.sact pact
  by_cases e0 : a = 0
  · rw [if_pos e0, if_pos e0]
  rw [if_neg e0, if_neg e0]
  by_cases e1 : a = 1
  · rw [if_pos e1, if_pos e1]
    rfl
  rw [if_neg e1, if_neg e1]
  by_cases e2 : a = 2
  · rw [if_pos e2, if_pos e2, if_neg hnx, if_neg hnx]
    rfl
  rw [if_neg e2, if_neg e2]
  by_cases e3 : a = 3
  · rw [if_pos e3, if_pos e3]
    rfl
  rw [if_neg e3, if_neg e3]
  by_cases e4 : a = 4
  · rw [if_pos e4, if_pos e4]
    rfl
  rw [if_neg e4, if_neg e4]
  by_cases e5 : a = 5
  · rw [if_pos e5, if_pos e5]
    rfl
  rw [if_neg e5, if_neg e5]
  by_cases e6 : a = 6
  · rw [if_pos e6, if_pos e6]
    show (⟨p.ps, [], pt, p.pl, _, p.st⟩ : Sp.SM) = ⟨p.ps, p.da.take 0, pt, p.pl, _, p.st⟩
    rw [List.take_zero]
    rfl
  rw [if_neg e6, if_neg e6]
  by_cases e7 : a = 7
  · rw [if_pos e7, if_pos e7]
    exact v_put m p pt b hm hda hdl
  rw [if_neg e7, if_neg e7]
  by_cases e8 : a = 8
  · rw [if_pos e8, if_pos e8]
    exact v_param n p pt b (h8 e8)
  rw [if_neg e8, if_neg e8]
  rfl
theorem nx_esc : Ma.nx 8 27 = 8 := by decide +kernel
theorem v_adv (n m : Nat) (p : PM) (pt : List Int) (b : Int) (hn : 4 ≤ n) (hm : 1 ≤ m) (hda : p.da.length = m) (hok : POk n m p) (hs : p.st ≠ 14) (h0 : 0 ≤ b) (h1 : b < 256) (hb : b < 194 ∨ 244 < b) :
    Sp.sadvG n (m : Int) (Ma.nx p.st b) (Ma.ac p.st b) (view p pt) b = view (padvG n (Ma.nx p.st b) (Ma.ac p.st b) p b) pt ∧ Ma.nx p.st b ≠ 14 := by
  have he := ent_ok p.st b hok.s0 (by have := hok.s1; omega) h0 h1
  have hnx : Ma.nx p.st b ≠ 14 := fun h => by have := (he.hu h).2; omega
  refine ⟨?_, hnx⟩
  have hle : Le n m (pmid (Ma.nx p.st b) (Ma.ac p.st b) p) := le_mid _ _ ⟨hok.dl, hda, hok.pl⟩
  obtain ⟨nx, hx⟩ : ∃ z, z = Ma.nx p.st b := ⟨_, rfl⟩
  obtain ⟨a, ha⟩ : ∃ z, z = Ma.ac p.st b := ⟨_, rfl⟩
  have h8 := he.h8
  rw [← hx] at hnx hle ⊢
  rw [← ha] at hle h8 ⊢
  unfold Sp.sadvG padvG
  by_cases h27 : b = 27 ∧ p.st = 8
  · have hx8 : nx = 8 := by rw [hx, h27.1, h27.2]; exact nx_esc
    rw [if_pos h27, if_pos (show (view p pt).st = 8 ∧ nx = 8 ∧ b = 27 from ⟨h27.2, hx8, h27.1⟩)]
    have e : pmid nx a p = p := by unfold pmid; rw [if_pos (by rw [h27.2, hx8])]
    rw [e]
    show (⟨p.ps, p.da.take p.dl, pt, p.pl, b, p.st⟩ : Sp.SM) = ⟨p.ps, p.da.take p.dl, pt, p.pl, b, nx⟩
    rw [h27.2, hx8]
  · rw [if_neg h27, if_neg (show ¬ ((view p pt).st = 8 ∧ nx = 8 ∧ b = 27) from fun h => h27 ⟨h.2.2, h.1⟩)]
    rw [v_mid, v_act n m a nx _ pt b hm hle.da hle.dl hnx h8]
    rfl
structure SimS (n m : Nat) (p : PM) (s : Sp.SM) : Prop where
  ok : POk n m p
  da : p.da.length = m
  s14 : p.st ≠ 14
  v : ∃ pt, s = view p pt
theorem simS (n m : Nat) (hn : 4 ≤ n) (hm : 1 ≤ m) (p : PM) (s : Sp.SM) (b : Int) (h : SimS n m p s) (h0 : 0 ≤ b) (h1 : b < 256) (hb : b < 194 ∨ 244 < b) :
    SimS n m (pstep n p b).1 (Sp.sadvG n (m : Int) (Ma.nx s.st b) (Ma.ac s.st b) s b) := by
  obtain ⟨pt, rfl⟩ := h.v
  have hok := (well n m hn).ok p b h.ok h.da h0 h1
  have hv := v_adv n m p pt b hn hm h.da h.ok h.s14 h0 h1 hb
  have hda := (le_adv (Ma.nx p.st b) (Ma.ac p.st b) b (⟨h.ok.dl, h.da, h.ok.pl⟩ : Le n m p) hn).da
  have eP : pstep n p b = (padvG n (Ma.nx p.st b) (Ma.ac p.st b) p b, Ma.ac p.st b) := by unfold pstep; rw [if_neg h.s14]
  rw [eP] at hok ⊢
  exact ⟨hok, hda, hv.2, pt, hv.1⟩
theorem simS0 (n m : Nat) : SimS n m (p0 n m) (Sp.s0 n) := ⟨p0_ok n m, List.length_replicate, by show (0 : Int) ≠ 14; decide, [], by unfold view p0 Sp.s0; simp⟩
theorem same_ints (l : List Int) (hl : l.length ≤ 1000000) : ∃ k, PS.spec_SameInts.f k l l = some true := by
  have key : ∀ (m i : Nat), i + m = l.length → ∃ k, PS.spec_SameInts.l0 k l l (l.length : Int) (i : Int) = some true := by
    intro m
    induction m with
    | zero =>
      intro i hi
      refine ⟨1, ?_⟩
      unfold PS.spec_SameInts.l0
      rw [if_neg (by omega)]
    | succ m ih =>
      intro i hi
      obtain ⟨k, h⟩ := ih (i + 1) (by omega)
      refine ⟨k + 1, ?_⟩
      unfold PS.spec_SameInts.l0
      rw [if_pos (by omega), if_pos (by omega), if_pos (by omega), if_pos (by omega), if_pos rfl, show wrap64 ((i : Int) + 1) = ((i + 1 : Nat) : Int) by unfold wrap64; omega]
      exact h
  obtain ⟨k, h⟩ := key l.length 0 (by omega)
  exact ⟨k, by unfold PS.spec_SameInts.f; rw [if_pos rfl]; exact h⟩
theorem same_bytes (l : List Int) (hl : l.length ≤ 1000000) : ∃ k, PS.spec_SameBytes.f k l l = some true := by
  have key : ∀ (m i : Nat), i + m = l.length → ∃ k, PS.spec_SameBytes.l0 k l l (l.length : Int) (i : Int) = some true := by
    intro m
    induction m with
    | zero =>
      intro i hi
      refine ⟨1, ?_⟩
      unfold PS.spec_SameBytes.l0
      rw [if_neg (by omega)]
    | succ m ih =>
      intro i hi
      obtain ⟨k, h⟩ := ih (i + 1) (by omega)
      refine ⟨k + 1, ?_⟩
      unfold PS.spec_SameBytes.l0
      rw [if_pos (by omega), if_pos (by omega), if_pos (by omega), if_pos (by omega), if_pos rfl, show wrap64 ((i : Int) + 1) = ((i + 1 : Nat) : Int) by unfold wrap64; omega]
      exact h
  obtain ⟨k, h⟩ := key l.length 0 (by omega)
  exact ⟨k, by unfold PS.spec_SameBytes.f; rw [if_pos rfl]; exact h⟩
end Go.Proofs.YtmpmfdghdaofhaaDoor.Pm
