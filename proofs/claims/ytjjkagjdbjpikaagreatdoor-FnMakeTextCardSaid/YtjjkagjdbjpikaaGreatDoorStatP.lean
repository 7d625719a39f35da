/- Which ids are ids: what the program's validProgramStatusID and the reference's isStatusID say is one and the same. No memory. -/
import Derived.Test.YtjjkagjdbjpikaaGreatDoorPVx3
namespace Go.Proofs.YtjjkagjdbjpikaaGreatDoor.Or
set_option linter.unusedVariables false
set_option linter.unusedSimpArgs false
open Go Go.RowKit Go.Proofs.YtjjkagjdbjpikaaGreatDoorW.PrintWords Go.Proofs.YtjjkagjdbjpikaaGreatDoorW.PrintLast Go.Proofs.YtjjkagjdbjpikaaGreatDoor.PV

namespace St
/-- From some number of rounds on. -/
def Ev (P : Nat → Prop) : Prop := ∃ K, ∀ k, K ≤ k → P k
theorem Ev.all {P : Nat → Prop} (h : ∀ k, P k) : Ev P := ⟨0, fun k _ => h k⟩
theorem Ev.succ {P Q : Nat → Prop} (h : Ev Q) (hs : ∀ k, Q k → P (k + 1)) : Ev P := by
  obtain ⟨K, h⟩ := h
  refine ⟨K + 1, fun k hk => ?_⟩
  obtain ⟨j, rfl⟩ : ∃ j, k = j + 1 := ⟨k - 1, by omega⟩
  exact hs j (h j (by omega))
theorem Ev.one {P : Nat → Prop} (hs : ∀ k, P (k + 1)) : Ev P := (Ev.all (P := fun _ => True) (fun _ => trivial)).succ fun k _ => hs k
theorem Ev.imp {P Q : Nat → Prop} (h : Ev Q) (hs : ∀ k, Q k → P k) : Ev P := by
  obtain ⟨K, h⟩ := h
  exact ⟨K, fun k hk => hs k (h k hk)⟩
theorem Ev.and {P Q : Nat → Prop} (h : Ev P) (g : Ev Q) : Ev fun k => P k ∧ Q k := by
  obtain ⟨K, h⟩ := h
  obtain ⟨L, g⟩ := g
  exact ⟨K + L, fun k hk => ⟨h k (by omega), g k (by omega)⟩⟩
theorem w64 {x : Int} (h0 : -9223372036854775808 ≤ x) (h1 : x ≤ 9223372036854775807) : wrap64 x = x := by unfold wrap64; omega

def L (s : ByteArray) : List UInt8 := s.data.toList
theorem L_len (s : ByteArray) : (L s).length = s.size := Array.length_toList
theorem L_ext (s : ByteArray) (a b : Nat) (h : b ≤ s.size) : L (s.extract a b) = ((L s).drop a).take (b - a) := by
  unfold L
  rw [ByteArray.data_extract, Array.toList_extract]
theorem bt_L (s : ByteArray) (j : Nat) (h : j < (L s).length) : bt s (j : Int) = ((L s)[j].toNat : Int) := by
  rw [← rd_bytesOf]
  unfold rd bytesOf
  rw [Int.toNat_natCast, List.getD_eq_getElem?_getD, List.getElem?_map]
  have : s.data.toList[j]? = some ((L s)[j]) := List.getElem?_eq_getElem h
  rw [this]
  rfl

def good (c : Int) : Prop := (97 ≤ c ∧ c ≤ 122) ∨ (65 ≤ c ∧ c ≤ 90) ∨ (48 ≤ c ∧ c ≤ 57) ∨ c = 95 ∨ c = 46 ∨ c = 43 ∨ c = 45
instance (c : Int) : Decidable (good c) := by unfold good; infer_instance
def allGood (l : List UInt8) : Bool := l.all fun c => decide (good (c.toNat : Int))
def okSeg (l : List UInt8) : Bool := decide (1 ≤ l.length) && (decide (l.length ≤ 32) && allGood l)

theorem drop_cons (l : List UInt8) (i : Nat) (h : i < l.length) : l.drop i = l[i] :: l.drop (i + 1) := List.drop_eq_getElem_cons h

set_option maxHeartbeats 8000000 in
theorem vseg (s : ByteArray) (hs : s.size ≤ 1000000) : ∀ (m j : Nat), j + m = s.size → Ev fun k => xansi_validProgramStatusSegment.l0 k s (s.size : Int) (j : Int) = some (allGood ((L s).drop j))
  | 0, j, hj => Ev.one fun k => by
    unfold xansi_validProgramStatusSegment.l0
    rw [if_neg (by omega), List.drop_eq_nil_of_le (by rw [L_len]; omega)]
    rfl
  | m + 1, j, hj => by
    have hl : j < (L s).length := by rw [L_len]; omega
    have hb := bt_L s j hl
    refine (vseg s hs m (j + 1) (by omega)).succ fun k h => ?_
    rw [drop_cons _ _ hl]
    unfold allGood
    rw [List.all_cons]
    unfold xansi_validProgramStatusSegment.l0
    rw [if_pos (by omega), if_pos (by omega), if_pos (by omega), hb, w64 (x := (j : Int) + 1) (by omega) (by omega)]
    generalize ((L s)[j].toNat : Int) = c
    by_cases hg : good c
    · rw [decide_eq_true hg, Bool.true_and]
      unfold good at hg
      have h' : xansi_validProgramStatusSegment.l0 k s (s.size : Int) ((j : Int) + 1) = some (((L s).drop (j + 1)).all fun c => decide (good (c.toNat : Int))) := h
      repeat' split
      all_goals first | exact h' | (exfalso; omega)
    · rw [decide_eq_false hg, Bool.false_and]
      unfold good at hg
      repeat' split
      all_goals first | rfl | (exfalso; omega)
theorem vj0 (k : Nat) (s : ByteArray) (b : Bool) : xansi_validProgramStatusSegment.j0 (k + 1) s b = if b = true then some false else xansi_validProgramStatusSegment.l0 k s (s.size : Int) 0 := rfl
theorem vsegment (s : ByteArray) (hs : s.size ≤ 1000000) : Ev fun k => xansi_validProgramStatusSegment.f k s = some (okSeg (L s)) := by
  unfold xansi_validProgramStatusSegment.f okSeg
  rw [L_len]
  by_cases h1 : (s.size : Int) < 1
  · refine Ev.one fun k => ?_
    rw [if_pos h1, vj0, if_pos rfl, decide_eq_false (by omega)]
    rfl
  by_cases h2 : (s.size : Int) > 32
  · refine Ev.one fun k => ?_
    rw [if_neg h1, vj0, decide_eq_true h2, if_pos rfl, decide_eq_true (by omega), decide_eq_false (by omega)]
    rfl
  refine (vseg s hs s.size 0 (by omega)).succ fun k h => ?_
  rw [if_neg h1, vj0, decide_eq_false h2, if_neg (by decide), decide_eq_true (by omega), decide_eq_true (by omega), Bool.true_and, Bool.true_and]
  exact h

theorem within_eq (a b c : Int) : spec_within.f a b c = some (decide (b ≤ a ∧ a ≤ c)) := by
  unfold spec_within.f
  by_cases h : b ≤ a
  · rw [if_pos h]; simp [h]
  · rw [if_neg h]; simp [h]
theorem spart (s : ByteArray) (hs : s.size ≤ 1000000) : ∀ (m j : Nat), j + m = s.size → Ev fun k => spec_isPart.l0 k s (j : Int) = some (decide (1 ≤ s.size) && (decide (s.size ≤ 32) && allGood ((L s).drop j)))
  | 0, j, hj => Ev.one fun k => by
    unfold spec_isPart.l0
    rw [if_neg (by omega), List.drop_eq_nil_of_le (by rw [L_len]; omega)]
    by_cases h1 : (s.size : Int) ≥ 1
    · rw [if_pos h1, decide_eq_true (p := 1 ≤ s.size) (by omega)]
      by_cases h2 : s.size ≤ 32
      · rw [decide_eq_true h2, decide_eq_true (by omega)]; rfl
      · rw [decide_eq_false h2, decide_eq_false (by omega)]; rfl
    · rw [if_neg h1, decide_eq_false (by omega)]; rfl
  | m + 1, j, hj => by
    have hl : j < (L s).length := by rw [L_len]; omega
    have hb := bt_L s j hl
    refine (spart s hs m (j + 1) (by omega)).succ fun k h => ?_
    rw [drop_cons _ _ hl]
    unfold allGood
    rw [List.all_cons]
    unfold spec_isPart.l0
    rw [if_pos (by omega), if_pos (by omega), hb, w64 (x := (j : Int) + 1) (by omega) (by omega)]
    simp only [within_eq, Option.bind_some, decide_eq_true_eq]
    generalize ((L s)[j].toNat : Int) = c
    by_cases hg : good c
    · rw [decide_eq_true hg, Bool.true_and]
      unfold good at hg
      have h' : spec_isPart.l0 k s ((j : Int) + 1) = some (decide (1 ≤ s.size) && (decide (s.size ≤ 32) && ((L s).drop (j + 1)).all fun c => decide (good (c.toNat : Int)))) := h
      repeat' split
      all_goals first | exact h' | (exfalso; omega)
    · rw [decide_eq_false hg, Bool.false_and, Bool.and_false, Bool.and_false]
      unfold good at hg
      repeat' split
      all_goals first | rfl | (exfalso; omega)
theorem spartf (s : ByteArray) (hs : s.size ≤ 1000000) : Ev fun k => spec_isPart.f k s = some (okSeg (L s)) := by
  have h := spart s hs s.size 0 (by omega)
  unfold okSeg
  rw [L_len]
  exact h

def splitL : List UInt8 → List (List UInt8)
  | [] => [[]]
  | c :: t => if c = 47 then [] :: splitL t else
    match splitL t with
    | h :: r => (c :: h) :: r
    | [] => [[c]]
theorem split_none : ∀ l : List UInt8, (∀ c ∈ l, c ≠ 47) → splitL l = [l]
  | [], _ => rfl
  | c :: t, h => by
    unfold splitL
    rw [if_neg (h c (by simp)), split_none t (fun x hx => h x (by simp [hx]))]
theorem split_at (b : List UInt8) : ∀ a : List UInt8, (∀ c ∈ a, c ≠ 47) → splitL (a ++ 47 :: b) = a :: splitL b
  | [], _ => by
    show splitL (47 :: b) = _
    conv => lhs; unfold splitL
    rw [if_pos rfl]
  | c :: t, h => by
    show splitL (c :: (t ++ 47 :: b)) = _
    conv => lhs; unfold splitL
    rw [if_neg (h c (by simp)), split_at b t (fun x hx => h x (by simp [hx]))]
def okID (l : List UInt8) : Bool := decide (l.length ≤ 128) && (decide ((splitL l).length ≤ 8) && (splitL l).all okSeg)
end St
end Go.Proofs.YtjjkagjdbjpikaaGreatDoor.Or
