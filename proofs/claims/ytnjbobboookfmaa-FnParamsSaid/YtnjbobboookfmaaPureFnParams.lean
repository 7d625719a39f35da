/- The plain part of FnParams: what is asked of packed parameters is what the reference says. No memory. -/
import Derived.Test.YtnjbobboookfmaaPEx5
import Derived.Laws.BitsLemmas
namespace Go.Proofs.Ytnjbobboookfmaa.Params
open Go Go.RowKit Go.Proofs.Ytnjbobboookfmaa.PE Go.Proofs.YtnjbobboookfmaaW.PrintWords Go.Proofs.YtnjbobboookfmaaW.PrintLast
set_option linter.unusedVariables false
set_option linter.unusedSimpArgs false

/-- From some number of rounds on. -/
def Ev (P : Nat → Prop) : Prop := ∃ K, ∀ k, K ≤ k → P k
theorem Ev.all {P : Nat → Prop} (h : ∀ k, P k) : Ev P := ⟨0, fun k _ => h k⟩
theorem Ev.succ {P Q : Nat → Prop} (h : Ev Q) (hs : ∀ k, Q k → P (k + 1)) : Ev P := by
  obtain ⟨K, h⟩ := h
  refine ⟨K + 1, fun k hk => ?_⟩
  obtain ⟨j, rfl⟩ : ∃ j, k = j + 1 := ⟨k - 1, by omega⟩
  exact hs j (h j (by omega))
theorem Ev.one {P : Nat → Prop} (hs : ∀ k, P (k + 1)) : Ev P := (Ev.all (P := fun _ => True) (fun _ => trivial)).succ fun k _ => hs k
theorem Ev.imp {P Q : Nat → Prop} (h : Ev Q) (hs : ∀ k, Q k → P k) : Ev P := by
  obtain ⟨K, h⟩ := h
  exact ⟨K, fun k hk => hs k (h k hk)⟩
theorem Ev.and {P Q : Nat → Prop} (h : Ev P) (g : Ev Q) : Ev fun k => P k ∧ Q k := by
  obtain ⟨K, h⟩ := h
  obtain ⟨L, g⟩ := g
  exact ⟨K + L, fun k hk => ⟨h k (by omega), g k (by omega)⟩⟩
theorem Ev.ex {P : Nat → Prop} (h : Ev P) : ∃ k, P k := by
  obtain ⟨K, h⟩ := h
  exact ⟨K, h K (Nat.le_refl _)⟩
theorem w64 {x : Int} (h0 : -9223372036854775808 ≤ x) (h1 : x ≤ 9223372036854775807) : wrap64 x = x := by unfold wrap64; omega
theorem rd_at (l : List Int) (i : Nat) : rd l (i : Int) = l.getD i 0 := by
  unfold rd
  rw [Int.toNat_natCast]
theorem drop_cons {α : Type} (l : List α) (z : α) (i : Nat) (h : i < l.length) : l.drop i = l.getD i z :: l.drop (i + 1) := by
  rw [List.drop_eq_getElem_cons h]
  simp [List.getD_eq_getElem?_getD, h]

def mo (p : Int) : Bool := (Go.bits .and .i64 p (-2147483648)) != 0
def va (p : Int) : Int := Go.bits .and .i64 p 2147483647
def orv (p d : Int) : Int := if va p = 2147483647 then d else va p
theorem va_nonneg (p : Int) : 0 ≤ va p := by
  have h : (BitVec.ofInt 64 2147483647).toNat = 2 ^ 31 - 1 := by decide
  have key : (BitVec.ofInt 64 p &&& BitVec.ofInt 64 2147483647).toNat = (p % ((2 ^ 64 : Nat) : Int)).toNat % 2 ^ 31 := by
    rw [BitVec.toNat_and, BitVec.toNat_ofInt, h, Nat.and_two_pow_sub_one_eq_mod]
  show 0 ≤ IntKind.i64.wrap ((BitVec.ofInt 64 p &&& BitVec.ofInt 64 2147483647).toNat : Nat)
  rw [key, IntKind.wrap_i64]
  omega
theorem spec_or (p d : Int) : spec_Or.f p d = some (orv p d) := by
  unfold spec_Or.f spec_Value.f orv va
  simp only [Option.bind_some]
  split <;> rfl
theorem spec_more (p : Int) : spec_More.f p = some (mo p) := rfl
theorem awake : laws_packAwake.f = some true := by
  unfold laws_packAwake.f impl_Pack.f xansi_Command.f
  decide +kernel

theorem hasmore (l : List Int) (j : Nat) (h : j < l.length) : parser_HasMore.f l (j : Int) = some (mo (l.getD j 0)) := by
  unfold parser_HasMore.f
  rw [if_neg (by omega), if_neg (by omega), if_pos (by omega), if_pos (by omega), rd_at]
  rfl
theorem param (l : List Int) (j : Nat) (h : j < l.length) : parser_Param.f l (j : Int) = some (orv (l.getD j 0) (-1)) := by
  unfold parser_Param.f
  rw [if_neg (by omega), if_neg (by omega), if_neg (by omega), if_pos (by omega), if_pos (by omega), rd_at]
  unfold orv va
  split <;> rfl
theorem param_end (l : List Int) (i : Int) (h : (l.length : Int) ≤ i) : parser_Param.f l i = some (-1) := by
  unfold parser_Param.f
  by_cases h0 : (l.length : Int) = 0
  · rw [if_pos h0]
  · rw [if_neg h0, if_neg (by omega), if_pos (by omega)]
theorem none_zero (p : Int) (acc : List Int) : (if orv p (-1) = -1 then acc ++ [0] else acc ++ [orv p (-1)]) = acc ++ [orv p 0] := by
  have h := va_nonneg p
  unfold orv
  by_cases hm : va p = 2147483647
  · rw [if_pos hm, if_pos hm, if_pos rfl]
  · rw [if_neg hm, if_neg hm, if_neg (by omega)]

/-- The values up to the end of the sub-parameters. -/
def sub : List Int → List Int
  | [] => [0]
  | p :: t => if mo p then orv p 0 :: sub t else [orv p 0]
theorem sub_more (p : Int) (t : List Int) (h : mo p = true) : sub (p :: t) = orv p 0 :: sub t := by
  show (if mo p then orv p 0 :: sub t else [orv p 0]) = _
  rw [if_pos h]
theorem sub_last (p : Int) (t : List Int) (h : ¬ mo p = true) : sub (p :: t) = [orv p 0] := by
  show (if mo p then orv p 0 :: sub t else [orv p 0]) = _
  rw [if_neg h]
theorem sub_len : ∀ l : List Int, (sub l).length ≤ l.length + 1
  | [] => Nat.le_refl _
  | p :: t => by
    unfold sub
    have := sub_len t
    split
    · simp only [List.length_cons]; omega
    · simp
/-- The place where a parameter begins. -/
def fnd (l : List Int) (i : Int) : Nat → Nat → Int → Nat
  | 0, j, _ => j
  | m + 1, j, c => if c = i then j else fnd l i m (j + 1) (if mo (l.getD j 0) then c else c + 1)
theorem fnd_next (l : List Int) (i : Int) (m j : Nat) (c : Int) (h : ¬ c = i) : fnd l i (m + 1) j c = fnd l i m (j + 1) (if mo (l.getD j 0) then c else c + 1) := by
  show (if c = i then j else _) = _
  rw [if_neg h]
theorem fnd_le (l : List Int) (i : Int) : ∀ m j c, fnd l i m j c ≤ j + m
  | 0, j, c => Nat.le_refl _
  | m + 1, j, c => by
    unfold fnd
    have := fnd_le l i m (j + 1) (if mo (l.getD j 0) then c else c + 1)
    split
    · omega
    · omega
def subs (l : List Int) (i : Nat) : List Int := sub (l.drop (fnd l i (l.length - 1) 0 0))

theorem j3_no (k : Nat) (l : List Int) (j : Int) : parser_Subparams.j3 (k + 1) l j false = parser_Subparams.l1 k l j [] := rfl
theorem j2_eq (k : Nat) (l : List Int) (i c j : Int) : parser_Subparams.j2 (k + 1) l i c j = if c > i then parser_Subparams.j3 k l j true else parser_Subparams.j3 k l j (decide (j ≥ (l.length : Int))) := rfl
theorem pj0_yes (k : Nat) (l : List Int) (i : Int) : parser_Subparams.j0 (k + 1) l i true = some [] := rfl
theorem pj0_no (k : Nat) (l : List Int) (i : Int) : parser_Subparams.j0 (k + 1) l i false = parser_Subparams.l0 k l i 0 0 (l.length : Int) 0 := rfl
theorem sj0_yes (k : Nat) (l : List Int) (i : Int) : spec_Subs.j0 (k + 1) l i true = some [] := rfl
theorem sj0_no (k : Nat) (l : List Int) (i : Int) : spec_Subs.j0 (k + 1) l i false = spec_Subs.l0 k l i 0 0 := rfl
theorem psub (l : List Int) (hl : l.length ≤ 1000) (h0 : 0 < l.length) : ∀ (m j : Nat) (acc : List Int), j + m = l.length → acc.length ≤ j → Ev fun k => parser_Subparams.l1 k l (j : Int) acc = some (acc ++ sub (l.drop j))
  | 0, j, acc, hj, ha => Ev.one fun k => by
    unfold parser_Subparams.l1
    rw [if_neg (by omega), param_end l j (by omega), Option.bind_some, if_pos rfl, if_pos (by omega), List.drop_eq_nil_of_le (by omega)]
    rfl
  | m + 1, j, acc, hj, ha => by
    have hd := drop_cons l 0 j (by omega)
    have hp := param l j (by omega)
    have hh := hasmore l j (by omega)
    have hz := none_zero (l.getD j 0) acc
    have hr := psub l hl h0 m (j + 1) (acc ++ [orv (l.getD j 0) 0]) (by omega) (by rw [List.length_append]; show acc.length + 1 ≤ _; omega)
    generalize l.getD j 0 = p at hd hp hh hz hr
    refine hr.succ fun k h => ?_
    unfold parser_Subparams.l1
    rw [if_pos (by omega), hh, Option.bind_some, hd]
    by_cases hm : mo p = true
    · rw [if_pos hm, hp, Option.bind_some, w64 (x := (j : Int) + 1) (by omega) (by omega)]
      have e := sub_more p (l.drop (j + 1)) hm
      rw [e]
      have h' : parser_Subparams.l1 k l (((j + 1 : Nat)) : Int) (acc ++ [orv p 0]) = some (acc ++ orv p 0 :: sub (l.drop (j + 1))) := by rw [h, List.append_assoc]; rfl
      rw [← hz] at h'
      by_cases hc : orv p (-1) = -1
      · rw [if_pos hc] at h' ⊢; rw [if_pos (by omega)]; exact h'
      · rw [if_neg hc] at h' ⊢; rw [if_pos (by omega)]; exact h'
    · have e := sub_last p (l.drop (j + 1)) hm
      rw [if_neg hm, hp, Option.bind_some, e, ← hz]
      by_cases hc : orv p (-1) = -1
      · rw [if_pos hc, if_pos hc, if_pos (by omega)]
      · rw [if_neg hc, if_neg hc, if_pos (by omega)]
theorem ssub (l : List Int) (hl : l.length ≤ 1000) : ∀ (m j : Nat) (acc : List Int), j + m = l.length → acc.length ≤ j → Ev fun k => spec_Subs.l1 k l (j : Int) acc = some (acc ++ sub (l.drop j))
  | 0, j, acc, hj, ha => Ev.one fun k => by
    unfold spec_Subs.l1
    rw [if_neg (by omega), if_pos (by omega), List.drop_eq_nil_of_le (by omega)]
    rfl
  | m + 1, j, acc, hj, ha => by
    have hd := drop_cons l 0 j (by omega)
    have hr := ssub l hl m (j + 1) (acc ++ [orv (l.getD j 0) 0]) (by omega) (by rw [List.length_append]; show acc.length + 1 ≤ _; omega)
    have hrd := rd_at l j
    generalize l.getD j 0 = p at hd hr hrd
    refine hr.succ fun k h => ?_
    unfold spec_Subs.l1
    rw [if_pos (by omega), if_pos (by omega), hrd, spec_or, Option.bind_some, if_pos (by omega), Option.bind_some, spec_more, Option.bind_some, hd]
    by_cases hm : mo p = true
    · have e := sub_more p (l.drop (j + 1)) hm
      rw [if_pos hm, w64 (x := (j : Int) + 1) (by omega) (by omega), e]
      have h' : spec_Subs.l1 k l (((j + 1 : Nat)) : Int) (acc ++ [orv p 0]) = some (acc ++ orv p 0 :: sub (l.drop (j + 1))) := by rw [h, List.append_assoc]; rfl
      exact h'
    · have e := sub_last p (l.drop (j + 1)) hm
      rw [if_neg hm, e]

theorem pfind (l : List Int) (hl : l.length ≤ 1000) (h0 : 0 < l.length) (i : Nat) : ∀ (m j : Nat) (c x6 : Int), j + m + 1 = l.length → 0 ≤ c → c ≤ (i : Int) → c ≤ (j : Int) →
    Ev fun k => parser_Subparams.l0 k l (i : Int) c x6 (l.length : Int) (j : Int) = some (sub (l.drop (fnd l i m j c)))
  | 0, j, c, x6, hj, hc, hci, hcj => by
    have hr := psub l hl h0 1 j [] (by omega) (Nat.zero_le _)
    rw [List.nil_append] at hr
    have j3 : Ev fun k => parser_Subparams.j3 k l (j : Int) false = some (sub (l.drop j)) := hr.succ fun k h => by
      rw [j3_no]
      exact h
    have j2 : ∀ c' : Int, c' ≤ (i : Int) → Ev fun k => parser_Subparams.j2 k l (i : Int) c' (j : Int) = some (sub (l.drop j)) := fun c' hc' => j3.succ fun k h => by
      rw [j2_eq, if_neg (by omega), decide_eq_false (by omega)]
      exact h
    show Ev fun k => parser_Subparams.l0 k l (i : Int) c x6 (l.length : Int) (j : Int) = some (sub (l.drop j))
    by_cases he : c = (i : Int)
    · exact (j2 c hci).succ fun k h => by
        unfold parser_Subparams.l0
        rw [if_pos (by omega), if_pos he]
        exact h
    · have hj1 : ∀ c' : Int, c' ≤ (i : Int) → Ev fun k => parser_Subparams.l0 k l (i : Int) c' (j : Int) (l.length : Int) (((j + 1 : Nat)) : Int) = some (sub (l.drop j)) := fun c' hc' => (j2 c' hc').succ fun k h => by
        unfold parser_Subparams.l0
        rw [if_neg (by omega)]
        exact h
      have hw : wrap64 ((j : Int) + 1) = ((j + 1 : Nat) : Int) := w64 (by omega) (by omega)
      refine ((hj1 c hci).and (hj1 (c + 1) (by omega))).succ fun k h => ?_
      unfold parser_Subparams.l0
      rw [if_pos (by omega), if_neg he, hasmore l j (by omega), Option.bind_some, hw]
      by_cases hm : mo (l.getD j 0) = true
      · rw [if_pos hm]; exact h.1
      · rw [if_neg hm, w64 (x := c + 1) (by omega) (by omega)]; exact h.2
  | m + 1, j, c, x6, hj, hc, hci, hcj => by
    by_cases he : c = (i : Int)
    · have hr := psub l hl h0 (m + 2) j [] (by omega) (Nat.zero_le _)
      rw [List.nil_append] at hr
      have j3 : Ev fun k => parser_Subparams.j3 k l (j : Int) false = some (sub (l.drop j)) := hr.succ fun k h => by
        rw [j3_no]
        exact h
      have j2 : Ev fun k => parser_Subparams.j2 k l (i : Int) c (j : Int) = some (sub (l.drop j)) := j3.succ fun k h => by
        rw [j2_eq, if_neg (by omega), decide_eq_false (by omega)]
        exact h
      refine j2.succ fun k h => ?_
      have e : fnd l i (m + 1) j c = j := by unfold fnd; rw [if_pos he]
      unfold parser_Subparams.l0
      rw [if_pos (by omega), if_pos he, e]
      exact h
    · have r1 := pfind l hl h0 i m (j + 1) c (j : Int) (by omega) hc hci (by omega)
      have r2 := pfind l hl h0 i m (j + 1) (c + 1) (j : Int) (by omega) (by omega) (by omega) (by omega)
      have hw : wrap64 ((j : Int) + 1) = ((j + 1 : Nat) : Int) := w64 (by omega) (by omega)
      refine (r1.and r2).succ fun k h => ?_
      have e := fnd_next l i m j c he
      unfold parser_Subparams.l0
      rw [if_pos (by omega), if_neg he, hasmore l j (by omega), Option.bind_some, hw, e]
      by_cases hm : mo (l.getD j 0) = true
      · rw [if_pos hm, if_pos hm]; exact h.1
      · rw [if_neg hm, if_neg hm, w64 (x := c + 1) (by omega) (by omega)]; exact h.2
theorem sfind (l : List Int) (hl : l.length ≤ 1000) (h0 : 0 < l.length) (i : Nat) : ∀ (m j : Nat) (c : Int), j + m + 1 = l.length → 0 ≤ c → c ≤ (i : Int) → c ≤ (j : Int) →
    Ev fun k => spec_Subs.l0 k l (i : Int) (j : Int) c = some (sub (l.drop (fnd l i m j c)))
  | 0, j, c, hj, hc, hci, hcj => by
    have hr := ssub l hl 1 j [] (by omega) (Nat.zero_le _)
    rw [List.nil_append] at hr
    refine hr.succ fun k h => ?_
    unfold spec_Subs.l0
    rw [if_neg (by rw [w64 (by omega) (by omega)]; omega)]
    exact h
  | m + 1, j, c, hj, hc, hci, hcj => by
    have hw1 : wrap64 ((l.length : Int) - 1) = (l.length : Int) - 1 := w64 (by omega) (by omega)
    by_cases he : c = (i : Int)
    · have hr := ssub l hl (m + 2) j [] (by omega) (Nat.zero_le _)
      rw [List.nil_append] at hr
      refine hr.succ fun k h => ?_
      have e : fnd l i (m + 1) j c = j := by unfold fnd; rw [if_pos he]
      unfold spec_Subs.l0
      rw [hw1, if_pos (by omega), if_neg (by omega), e]
      exact h
    · have r1 := sfind l hl h0 i m (j + 1) c (by omega) hc hci (by omega)
      have r2 := sfind l hl h0 i m (j + 1) (c + 1) (by omega) (by omega) (by omega) (by omega)
      have hw : wrap64 ((j : Int) + 1) = ((j + 1 : Nat) : Int) := w64 (by omega) (by omega)
      refine (r1.and r2).succ fun k h => ?_
      have e := fnd_next l i m j c he
      unfold spec_Subs.l0
      rw [hw1, if_pos (by omega), if_pos (by omega), if_pos (by omega), if_pos (by omega), rd_at, spec_more, Option.bind_some, hw, e]
      by_cases hm : mo (l.getD j 0) = true
      · rw [if_pos hm, if_pos hm]; exact h.1
      · rw [if_neg hm, if_neg hm, w64 (x := c + 1) (by omega) (by omega)]; exact h.2

/-- The sub-parameters of a place k - 1. -/
def subsAt (l : List Int) (k : Nat) : List Int := if 1 ≤ k ∧ k ≤ l.length then subs l (k - 1) else []
theorem subsAt_len (l : List Int) (k : Nat) : (subsAt l k).length ≤ l.length + 1 := by
  unfold subsAt subs
  split
  · have := sub_len (l.drop (fnd l ((k - 1 : Nat) : Int) (l.length - 1) 0 0))
    rw [List.length_drop] at this
    omega
  · simp
theorem psubs (l : List Int) (hl : l.length ≤ 1000) (k : Nat) (hk : k ≤ l.length + 1) : Ev fun K => parser_Subparams.f K l ((k : Int) - 1) = some (subsAt l k) := by
  have no : Ev fun K => parser_Subparams.j0 K l ((k : Int) - 1) true = some [] := Ev.one fun K => pj0_yes K l _
  unfold parser_Subparams.f subsAt
  by_cases h0 : (l.length : Int) = 0
  · rw [if_neg (by omega)]
    refine no.imp fun K h => ?_
    rw [if_pos h0]; exact h
  by_cases h1 : (k : Int) - 1 < 0
  · rw [if_neg (by omega)]
    refine no.imp fun K h => ?_
    rw [if_neg h0, if_pos h1]; exact h
  by_cases h2 : (k : Int) - 1 ≥ (l.length : Int)
  · rw [if_neg (by omega)]
    refine no.imp fun K h => ?_
    rw [if_neg h0, if_neg h1, decide_eq_true h2]; exact h
  rw [if_pos (by omega)]
  have e : (k : Int) - 1 = ((k - 1 : Nat) : Int) := by omega
  have hr := pfind l hl (by omega) (k - 1) (l.length - 1) 0 0 0 (by omega) (by omega) (by omega) (by omega)
  refine (hr.succ (P := fun K => parser_Subparams.j0 K l ((k : Int) - 1) false = some (subs l (k - 1))) fun K h => ?_).imp fun K h => ?_
  · rw [pj0_no, e]
    exact h
  · rw [if_neg h0, if_neg h1, decide_eq_false h2]
    exact h
theorem ssubs (l : List Int) (hl : l.length ≤ 1000) (k : Nat) (hk : k ≤ l.length + 1) : Ev fun K => spec_Subs.f K l ((k : Int) - 1) = some (subsAt l k) := by
  have no : Ev fun K => spec_Subs.j0 K l ((k : Int) - 1) true = some [] := Ev.one fun K => sj0_yes K l _
  unfold spec_Subs.f subsAt
  by_cases h1 : (k : Int) - 1 < 0
  · rw [if_neg (by omega)]
    refine no.imp fun K h => ?_
    rw [if_pos h1]; exact h
  by_cases h2 : (k : Int) - 1 ≥ (l.length : Int)
  · rw [if_neg (by omega)]
    refine no.imp fun K h => ?_
    rw [if_neg h1, decide_eq_true h2]; exact h
  rw [if_pos (by omega)]
  have e : (k : Int) - 1 = ((k - 1 : Nat) : Int) := by omega
  have hr := sfind l hl (by omega) (k - 1) (l.length - 1) 0 0 (by omega) (by omega) (by omega) (by omega)
  refine (hr.succ (P := fun K => spec_Subs.j0 K l ((k : Int) - 1) false = some (subs l (k - 1))) fun K h => ?_).imp fun K h => ?_
  · rw [sj0_no, e]
    exact h
  · rw [if_neg h1, decide_eq_false h2]
    exact h

/-- What is asked at a place k - 1. -/
def entry (l : List Int) (d : Int) (k : Nat) : S48 :=
  if 1 ≤ k ∧ k ≤ l.length then ⟨orv (l.getD (k - 1) 0) d, mo (l.getD (k - 1) 0), true, orv (l.getD (k - 1) 0) (-1), mo (l.getD (k - 1) 0), subsAt l k⟩ else ⟨d, false, false, -1, false, subsAt l k⟩
def cnt : List Int → Int
  | [] => 0
  | p :: t => (if mo p then 0 else 1) + cnt t
theorem plen (l : List Int) (hl : l.length ≤ 1000) : ∀ (m j : Nat) (c : Int), j + m = l.length → 0 ≤ c → c ≤ (j : Int) → Ev fun k => parser_Len.l0 k l c (l.length : Int) (j : Int) = some (c + cnt (l.drop j))
  | 0, j, c, hj, hc, hcj => Ev.one fun k => by
    unfold parser_Len.l0
    rw [if_neg (by omega), List.drop_eq_nil_of_le (by omega)]
    show some c = some (c + 0)
    rw [Int.add_zero]
  | m + 1, j, c, hj, hc, hcj => by
    have r1 := plen l hl m (j + 1) c (by omega) hc (by omega)
    have r2 := plen l hl m (j + 1) (c + 1) (by omega) (by omega) (by omega)
    have hw : wrap64 ((j : Int) + 1) = ((j + 1 : Nat) : Int) := w64 (by omega) (by omega)
    refine (r1.and r2).succ fun k h => ?_
    unfold parser_Len.l0
    rw [if_pos (by omega), hasmore l j (by omega), Option.bind_some, hw, drop_cons l 0 j (by omega)]
    unfold cnt
    by_cases hm : mo (l.getD j 0) = true
    · rw [if_pos hm, if_pos hm, Int.zero_add]; exact h.1
    · rw [if_neg hm, if_neg hm, w64 (x := c + 1) (by omega) (by omega), ← Int.add_assoc]; exact h.2
theorem swhole (l : List Int) (hl : l.length ≤ 1000) : ∀ (m j : Nat) (c : Int), j + m = l.length → 0 ≤ c → c ≤ (j : Int) → Ev fun k => spec_Whole.l0 k c l (l.length : Int) (j : Int) = some (c + cnt (l.drop j))
  | 0, j, c, hj, hc, hcj => Ev.one fun k => by
    unfold spec_Whole.l0
    rw [if_neg (by omega), List.drop_eq_nil_of_le (by omega)]
    show some c = some (c + 0)
    rw [Int.add_zero]
  | m + 1, j, c, hj, hc, hcj => by
    have r1 := swhole l hl m (j + 1) c (by omega) hc (by omega)
    have r2 := swhole l hl m (j + 1) (c + 1) (by omega) (by omega) (by omega)
    have hw : wrap64 ((j : Int) + 1) = ((j + 1 : Nat) : Int) := w64 (by omega) (by omega)
    refine (r1.and r2).succ fun k h => ?_
    unfold spec_Whole.l0
    rw [if_pos (by omega), if_pos (by omega), if_pos (by omega), rd_at, spec_more, Option.bind_some, hw, drop_cons l 0 j (by omega)]
    unfold cnt
    by_cases hm : mo (l.getD j 0) = true
    · rw [if_pos hm, if_pos hm, Int.zero_add]; exact h.1
    · rw [if_neg hm, if_neg hm, w64 (x := c + 1) (by omega) (by omega), ← Int.add_assoc]; exact h.2

theorem copies (l : List Int) (d : Int) (x5 : List S48) (q ps : List Int) (i : Int) (s : List Int) (hs : s.length ≤ 2000) (v0 : Int) (v1 v2 : Bool) (v3 : Int) (v4 : Bool) (hx : x5.length ≤ 2000) (r : Int × List S48) (hr : Ev fun k => impl_AskParams.l1 k d (x5 ++ [⟨v0, v1, v2, v3, v4, s⟩]) q ps (wrap64 (i + 1)) = some r) :
    ∀ (m j : Nat), j + m = s.length → Ev fun k => impl_AskParams.l2 k d x5 q ps i s (s.length : Int) (j : Int) v0 v1 v2 v3 v4 (s.take j) = some r
  | 0, j, hj => hr.succ fun k h => by
    have e : s.take j = s := List.take_of_length_le (by omega)
    unfold impl_AskParams.l2
    rw [if_neg (by omega), if_pos (by omega), e]
    exact h
  | m + 1, j, hj => (copies l d x5 q ps i s hs v0 v1 v2 v3 v4 hx r hr m (j + 1) (by omega)).succ fun k h => by
    have e : s.take (j + 1) = s.take j ++ [s.getD j 0] := by
      rw [List.take_add_one, List.getElem?_eq_getElem (by omega), List.getD_eq_getElem?_getD, List.getElem?_eq_getElem (by omega)]
      rfl
    unfold impl_AskParams.l2
    rw [if_pos (by omega), if_pos (by omega), if_pos (by omega), if_pos (by rw [List.length_take]; omega), w64 (x := (j : Int) + 1) (by omega) (by omega), rd_at, ← e]
    exact h
theorem pparam (l : List Int) (d : Int) (k : Nat) (hk : k ≤ l.length + 1) : xansi_Params_Param.f l ((k : Int) - 1) d = some ((entry l d k).f0, (entry l d k).f1, (entry l d k).f2) := by
  unfold xansi_Params_Param.f entry
  by_cases h1 : (k : Int) - 1 < 0
  · rw [if_pos h1, if_neg (by omega)]
  by_cases h2 : (k : Int) - 1 ≥ (l.length : Int)
  · rw [if_neg h1, if_pos h2, if_neg (by omega)]
  have e : (k : Int) - 1 = ((k - 1 : Nat) : Int) := by omega
  rw [if_neg h1, if_neg h2, if_pos (by omega), if_pos (by omega), if_pos (by omega), e, rd_at]
  unfold xansi_Param_Param.f xansi_Param_HasMore.f
  show ((if va (l.getD (k - 1) 0) = 2147483647 then some d else some (va (l.getD (k - 1) 0))).bind _) = _
  generalize l.getD (k - 1) 0 = p
  by_cases hm : va p = 2147483647
  · rw [if_pos hm, Option.bind_some, Option.bind_some]
    unfold orv
    rw [if_pos hm]
    rfl
  · rw [if_neg hm, Option.bind_some, Option.bind_some]
    unfold orv
    rw [if_neg hm]
    rfl
theorem plain (l : List Int) (d : Int) (k : Nat) (hk : k ≤ l.length + 1) : parser_Param.f l ((k : Int) - 1) = some (entry l d k).f3 := by
  unfold entry
  by_cases h1 : (k : Int) - 1 < 0
  · rw [if_neg (by omega)]
    unfold parser_Param.f
    by_cases h0 : (l.length : Int) = 0
    · rw [if_pos h0]
    · rw [if_neg h0, if_pos h1]
  by_cases h2 : (k : Int) - 1 ≥ (l.length : Int)
  · rw [if_neg (by omega), param_end l _ h2]
  have e : (k : Int) - 1 = ((k - 1 : Nat) : Int) := by omega
  rw [if_pos (by omega), e, param l (k - 1) (by omega)]
theorem pmore (l : List Int) (d : Int) (k : Nat) (h1 : 1 ≤ k) (hk : k ≤ l.length + 1) : parser_HasMore.f l ((k : Int) - 1) = some (entry l d k).f4 := by
  unfold entry
  by_cases h2 : (k : Int) - 1 ≥ (l.length : Int)
  · rw [if_neg (by omega)]
    unfold parser_HasMore.f
    by_cases h0 : (l.length : Int) = 0
    · rw [if_pos h0]
    · rw [if_neg h0, if_pos h2]
  have e : (k : Int) - 1 = ((k - 1 : Nat) : Int) := by omega
  rw [if_pos (by omega), e, hasmore l (k - 1) (by omega)]
theorem entry_subs (l : List Int) (d : Int) (k : Nat) : (entry l d k).f5 = subsAt l k := by unfold entry; split <;> rfl
theorem entry_zero (l : List Int) (d : Int) : (entry l d 0).f4 = false := by unfold entry; rw [if_neg (by omega)]
theorem asks (l : List Int) (hl : l.length ≤ 1000) (d : Int) : ∀ (m k : Nat), k + m = l.length + 2 → Ev fun K => impl_AskParams.l1 K d ((List.range k).map (entry l d)) l l ((k : Int) - 1) = some (cnt l, (List.range (l.length + 2)).map (entry l d))
  | 0, k, hk => by
    have hr := plen l hl l.length 0 0 (by omega) (by omega) (by omega)
    rw [List.drop_zero, Int.zero_add] at hr
    refine hr.succ fun K h => ?_
    have hk2 : k = l.length + 2 := by omega
    subst hk2
    unfold impl_AskParams.l1 parser_Len.f
    rw [if_neg (by omega)]
    have h' : parser_Len.l0 K l 0 (l.length : Int) 0 = some (cnt l) := h
    rw [h', Option.bind_some]
  | m + 1, k, hk => by
    have hn := asks l hl d m (k + 1) (by omega)
    have hps := psubs l hl k (by omega)
    have hlen := subsAt_len l k
    have e1 : wrap64 (((k : Int) - 1) + 1) = ((k + 1 : Nat) : Int) - 1 := by rw [w64 (by omega) (by omega)]; omega
    have e2 : (List.range (k + 1)).map (entry l d) = (List.range k).map (entry l d) ++ [⟨(entry l d k).f0, (entry l d k).f1, (entry l d k).f2, (entry l d k).f3, (entry l d k).f4, subsAt l k⟩] := by
      rw [List.range_succ, List.map_append, ← entry_subs l d k]
      rfl
    rw [e2, ← e1] at hn
    have hc := copies l d ((List.range k).map (entry l d)) l l ((k : Int) - 1) (subsAt l k) (by omega) (entry l d k).f0 (entry l d k).f1 (entry l d k).f2 (entry l d k).f3 (entry l d k).f4 (by rw [List.length_map, List.length_range]; omega) _ hn (subsAt l k).length 0 (by omega)
    refine (hps.and hc).succ fun K h => ?_
    unfold impl_AskParams.l1
    rw [if_pos (by omega), pparam l d k (by omega), Option.bind_some, plain l d k (by omega), Option.bind_some]
    by_cases h0 : (k : Int) - 1 ≥ 0
    · rw [if_pos h0, pmore l d k (by omega) (by omega), Option.bind_some, h.1, Option.bind_some]
      exact h.2
    · rw [if_neg h0, h.1, Option.bind_some]
      have hk0 : k = 0 := by omega
      subst hk0
      have h2 := h.2
      rw [entry_zero] at h2
      exact h2
theorem toparams (l : List Int) (hl : l.length ≤ 1000) : ∀ (m j : Nat) (t : List Int), j + m = l.length → t.length = l.length → t.take j = l.take j → Ev fun k => xansi_ToParams.l0 k l t (l.length : Int) (j : Int) = some l
  | 0, j, t, hj, ht, he => Ev.one fun k => by
    unfold xansi_ToParams.l0
    rw [if_neg (by omega)]
    rw [List.take_of_length_le (by omega), List.take_of_length_le (by omega)] at he
    rw [he]
  | m + 1, j, t, hj, ht, he => (toparams l hl m (j + 1) (t.set j (l.getD j 0)) (by omega) (by rw [List.length_set]; exact ht) (by
      rw [List.take_add_one, List.take_add_one, List.take_set, he, List.set_eq_of_length_le (by rw [List.length_take]; omega), List.getElem?_set_self (by omega), List.getElem?_eq_getElem (by omega), List.getD_eq_getElem?_getD, List.getElem?_eq_getElem (by omega)]
      rfl)).succ fun k h => by
    unfold xansi_ToParams.l0
    rw [if_pos (by omega), if_pos (by omega), if_pos (by omega), if_pos (by omega), w64 (x := (j : Int) + 1) (by omega) (by omega), rd_at]
    exact h
theorem gather (l : List Int) (hl : l.length ≤ 1000) (d : Int) : ∀ (m j : Nat), j + m = l.length → Ev fun k => impl_AskParams.l0 k d (l.take j) l (l.length : Int) (j : Int) = some (cnt l, (List.range (l.length + 2)).map (entry l d))
  | 0, j, hj => by
    have e : l.take j = l := List.take_of_length_le (by omega)
    rw [e]
    have hr := asks l hl d (l.length + 2) 0 (by omega)
    have j1 : Ev fun K => impl_AskParams.j1 K d [] l l = some (cnt l, (List.range (l.length + 2)).map (entry l d)) := hr.succ fun K h => h
    by_cases h0 : (l.length : Int) > 0
    · have ht := toparams l hl l.length 0 (List.replicate l.length 0) (by omega) (by simp) (by simp)
      refine (ht.and j1).succ fun k h => ?_
      unfold impl_AskParams.l0 xansi_ToParams.f
      rw [if_neg (by omega), if_pos h0, if_pos (by omega), if_pos (by omega), Option.bind_some]
      have e3 : ((l.length : Int) : Int).toNat = l.length := Int.toNat_natCast _
      have h1 := h.1
      rw [e3, List.length_replicate]
      rw [show xansi_ToParams.l0 k l (List.replicate l.length 0) (l.length : Int) 0 = some l from h1, Option.bind_some]
      exact h.2
    · have hnil : l = [] := List.eq_nil_of_length_eq_zero (by omega)
      refine j1.succ fun k h => ?_
      unfold impl_AskParams.l0
      rw [if_neg (by omega), if_neg h0]
      subst hnil
      exact h
  | m + 1, j, hj => (gather l hl d m (j + 1) (by omega)).succ fun k h => by
    have e : l.take (j + 1) = l.take j ++ [l.getD j 0] := by
      rw [List.take_add_one, List.getElem?_eq_getElem (by omega), List.getD_eq_getElem?_getD, List.getElem?_eq_getElem (by omega)]
      rfl
    unfold impl_AskParams.l0
    rw [if_pos (by omega), if_pos (by omega), if_pos (by omega), if_pos (by rw [List.length_take]; omega), w64 (x := (j : Int) + 1) (by omega) (by omega), rd_at, ← e]
    exact h
theorem asked (l : List Int) (hl : l.length ≤ 1000) (d : Int) : Ev fun k => impl_AskParams.f k l d = some (cnt l, (List.range (l.length + 2)).map (entry l d)) :=
  (gather l hl d l.length 0 (by omega)).imp fun k h => h
theorem whole (l : List Int) (hl : l.length ≤ 1000) : Ev fun k => spec_Whole.f k l = some (cnt l) := by
  have hr := swhole l hl l.length 0 0 (by omega) (by omega) (by omega)
  rw [List.drop_zero, Int.zero_add] at hr
  exact hr.imp fun k h => h
theorem splain (l : List Int) (d : Int) (k : Nat) (hk : k ≤ l.length + 1) : spec_PlainAt.f l ((k : Int) - 1) = some (entry l d k).f3 := by
  unfold spec_PlainAt.f entry
  by_cases h1 : (k : Int) - 1 < 0
  · rw [if_pos h1, if_neg (by omega)]
  by_cases h2 : (k : Int) - 1 ≥ (l.length : Int)
  · rw [if_neg h1, if_pos h2, if_neg (by omega)]
  have e : (k : Int) - 1 = ((k - 1 : Nat) : Int) := by omega
  rw [if_neg h1, if_neg h2, if_pos (by omega), if_pos (by omega), if_pos (by omega), e, rd_at, spec_or, Option.bind_some]
theorem same (s : List Int) (hs : s.length ≤ 2000) : Ev fun k => spec_SameInts.f k s s = some true := by
  have hr : ∀ (m j : Nat), j + m = s.length → Ev fun k => spec_SameInts.l0 k s s (s.length : Int) (j : Int) = some true := by
    intro m
    induction m with
    | zero =>
      intro j hj
      refine Ev.one fun k => ?_
      unfold spec_SameInts.l0
      rw [if_neg (by omega)]
    | succ m ih =>
      intro j hj
      refine (ih (j + 1) (by omega)).succ fun k h => ?_
      unfold spec_SameInts.l0
      rw [if_pos (by omega), if_pos (by omega), if_pos (by omega), if_pos (by omega), if_pos rfl, w64 (x := (j : Int) + 1) (by omega) (by omega)]
      exact h
  exact (hr s.length 0 (by omega)).imp fun k h => by unfold spec_SameInts.f; rw [if_pos rfl]; exact h

theorem loop (l : List Int) (hl : l.length ≤ 40) (d : Int) (L : List S48) (hL : L = (List.range (l.length + 2)).map (entry l d)) : ∀ (m j : Nat), j + m = l.length + 2 → Ev fun k => laws_FnParams.l0 k l d L (L.length : Int) (j : Int) = some true
  | 0, j, hj => Ev.one fun k => by
    have hn : L.length = l.length + 2 := by rw [hL, List.length_map, List.length_range]
    unfold laws_FnParams.l0
    rw [if_neg (by omega)]
  | m + 1, j, hj => by
    have hn : L.length = l.length + 2 := by rw [hL, List.length_map, List.length_range]
    have hrd : rd_T48 L (j : Int) = entry l d j := by
      unfold rd_T48
      rw [Int.toNat_natCast, hL, List.getD_eq_getElem?_getD, List.getElem?_map, List.getElem?_range (by omega)]
      rfl
    have hw : wrap64 ((j : Int) - 1) = (j : Int) - 1 := w64 (by omega) (by omega)
    have hw2 : wrap64 ((j : Int) + 1) = ((j + 1 : Nat) : Int) := w64 (by omega) (by omega)
    have hs := subsAt_len l j
    have hp := splain l d j (by omega)
    have h5 := entry_subs l d j
    refine ((ssubs l (by omega) j (by omega)).and ((same (subsAt l j) (by omega)).and (loop l hl d L hL m (j + 1) (by omega)))).succ fun k h => ?_
    obtain ⟨h1, h2, h3⟩ := h
    unfold laws_FnParams.l0
    rw [if_pos (by omega), if_pos (by omega), if_pos (by omega), hw, hw2, hrd, hp, h1]
    by_cases c1 : (j : Int) - 1 ≥ 0
    · rw [if_pos c1]
      by_cases c2 : (j : Int) - 1 < (l.length : Int)
      · have e : (j : Int) - 1 = ((j - 1 : Nat) : Int) := by omega
        have he : entry l d j = ⟨orv (l.getD (j - 1) 0) d, mo (l.getD (j - 1) 0), true, orv (l.getD (j - 1) 0) (-1), mo (l.getD (j - 1) 0), subsAt l j⟩ := by unfold entry; rw [if_pos (by omega)]
        rw [if_pos c2, if_pos (by omega), decide_eq_true c2, e, rd_at, spec_or, Option.bind_some, spec_more, Option.bind_some, he]
        generalize l.getD (j - 1) 0 = p
        simp only [bne_self_eq_false, Bool.false_eq_true, if_false, if_true, Option.bind_some, h2]
        exact h3
      · have he : entry l d j = ⟨d, false, false, -1, false, subsAt l j⟩ := by unfold entry; rw [if_neg (by omega)]
        rw [if_neg c2, decide_eq_false c2, he]
        simp only [bne_self_eq_false, Bool.false_eq_true, if_false, if_true, Option.bind_some, h2]
        exact h3
    · have he : entry l d j = ⟨d, false, false, -1, false, subsAt l j⟩ := by unfold entry; rw [if_neg (by omega)]
      rw [if_neg c1, he]
      simp only [bne_self_eq_false, Bool.false_eq_true, if_false, if_true, Option.bind_some, h2]
      exact h3

theorem j0_no (k : Nat) (l : List Int) (d : Int) (L : List S48) : laws_FnParams.j0 (k + 1) l d L false = laws_FnParams.l0 k l d L (L.length : Int) 0 := rfl
theorem FnParams : laws_FnParams.Pure := by
  intro l0 a1 _ _ _ _
  by_cases c1 : (l0.length : Int) > 2147483647
  · exact ⟨0, by unfold laws_FnParams.f; rw [if_pos c1]⟩
  by_cases c2 : (l0.length : Int) > 40
  · exact ⟨0, by unfold laws_FnParams.f; rw [if_neg c1, if_pos c2]⟩
  obtain ⟨L, hL⟩ : ∃ L, L = (List.range (l0.length + 2)).map (entry l0 a1) := ⟨_, rfl⟩
  have hn : L.length = l0.length + 2 := by rw [hL, List.length_map, List.length_range]
  have r1 := asked l0 (by omega) a1
  have r2 := whole l0 (by omega)
  have r3 := (loop l0 (by omega) a1 L hL (l0.length + 2) 0 (by omega)).succ (P := fun k => laws_FnParams.j0 k l0 a1 L false = some true) fun k h => by
    rw [j0_no]
    exact h
  rw [← hL] at r1
  obtain ⟨k, h1, h2, h3⟩ := (r1.and (r2.and r3)).ex
  refine ⟨k, ?_⟩
  unfold laws_FnParams.f
  rw [if_neg c1, if_neg c2, if_pos (by rw [List.length_nil]; omega), List.nil_append, h1, Option.bind_some, h2, Option.bind_some, if_pos rfl, if_pos (by rw [w64 (by omega) (by omega), hn]; omega), awake, Option.bind_some]
  exact h3
end Go.Proofs.Ytnjbobboookfmaa.Params
