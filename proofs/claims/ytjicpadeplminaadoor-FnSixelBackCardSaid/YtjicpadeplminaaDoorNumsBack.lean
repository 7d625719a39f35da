/- The digits of a number are read back as the number by 'nums'. No memory, no Go. -/
import Derived.Test.YtjicpadeplminaaDoorNums
import Derived.Lib.ItoaMem
import Derived.Lib.ItoaLen
namespace Go.Proofs.YtjicpadeplminaaDoor.Nums
set_option linter.unusedSimpArgs false
open Go Go.RowKit

/-- The digits of a number, as numbers of bytes. -/
def DG (u : Nat) : List Int := (Lib.decDigits u).map fun c => (c.toNat : Int)
theorem DG_small (u : Nat) (h : u < 10) : DG u = [(48 + u : Int)] := by
  unfold DG
  rw [Lib.decDigits, dif_pos h]
  simp only [List.map_cons, List.map_nil, UInt8.toNat_ofNat']
  congr 1
  omega
theorem DG_big (u : Nat) (h : ¬ u < 10) : DG u = DG (u / 10) ++ [(48 + u % 10 : Int)] := by
  unfold DG
  conv => lhs; rw [Lib.decDigits, dif_neg h]
  simp only [List.map_append, List.map_cons, List.map_nil, UInt8.toNat_ofNat']
  congr 2
  omega
theorem DG_len (u : Nat) (h : u < 18446744073709551616) : (DG u).length ≤ 20 := by
  unfold DG
  rw [List.length_map, Lib.decDigits_length]
  exact Lib.nDigits_le20 u h
theorem DG_pos (u : Nat) : 0 < (DG u).length := by
  by_cases h : u < 10
  · rw [DG_small u h]; simp
  · rw [DG_big u h]; simp

theorem nums_step (m : Nat) (d : Nat) (hd : d < 10) (q : Nat) (hq : q ≤ 100000000000000) (t : List Int) (a : Nat) (v : List Int) (_ha : a < v.length) (hv : v.getD a 0 = (q : Int)) :
    nums m ((48 + d : Int) :: t) a v = ((nums m t a (v.set a ((q * 10 + d : Nat) : Int))).1, (nums m t a (v.set a ((q * 10 + d : Nat) : Int))).2 + 1) := by
  have e : wrap64 (wrap64 ((q : Int) * 10) + (48 + d - 48)) = ((q * 10 + d : Nat) : Int) := by unfold wrap64; omega
  conv => lhs; unfold nums
  rw [if_pos (by omega), hv, e]

theorem nums_dig (m : Nat) : ∀ (u : Nat) (t : List Int) (a : Nat) (v : List Int), u ≤ 1000000000000000 → a < v.length → v.getD a 0 = 0 →
    nums m (DG u ++ t) a v = ((nums m t a (v.set a (u : Int))).1, (nums m t a (v.set a (u : Int))).2 + (DG u).length) := by
  intro u
  induction u using Nat.strongRecOn with
  | _ u ih =>
    intro t a v hu ha hv
    by_cases h : u < 10
    · rw [DG_small u h]
      have := nums_step m u h 0 (by omega) t a v ha (by simpa using hv)
      simpa using this
    · rw [DG_big u h, List.append_assoc, ih (u / 10) (by omega) _ a v (by omega) ha hv]
      have hs := nums_step m (u % 10) (by omega) (u / 10) (by omega) t a (v.set a ((u / 10 : Nat) : Int)) (by simpa using ha) (by simp [List.getD_eq_getElem?_getD, ha])
      have e : u / 10 * 10 + u % 10 = u := by omega
      rw [e] at hs
      have e2 : ((u % 10 : Nat) : Int) = (u : Int) % 10 := by omega
      rw [e2] at hs
      rw [List.singleton_append, hs]
      simp only [List.set_set, List.length_append, List.length_singleton, Prod.mk.injEq, true_and]
      omega

theorem nums_stop (m : Nat) (c : Int) (hc : c ≠ 59) (hd : ¬ (48 ≤ c ∧ c ≤ 57)) (t : List Int) (a : Nat) (v : List Int) : nums m (c :: t) a v = (v, 0) := by
  unfold nums
  rw [if_neg hd, if_neg hc]
theorem nums_semi (m : Nat) (t : List Int) (a : Nat) (v : List Int) (h : a ≠ m) : nums m (59 :: t) a v = ((nums m t (a + 1) v).1, (nums m t (a + 1) v).2 + 1) := by
  conv => lhs; unfold nums
  rw [if_neg (by decide), if_pos rfl, if_neg h]
theorem nums_last (m : Nat) (t : List Int) (a : Nat) (v : List Int) (h : a = m) : nums m (59 :: t) a v = (v, 1) := by
  unfold nums
  rw [if_neg (by decide), if_pos rfl, if_pos h]

theorem rast_back (p q r s : Nat) (hp : p ≤ 1000000000000000) (hq : q ≤ 1000000000000000) (hr : r ≤ 1000000000000000) (hs : s ≤ 1000000000000000) (c : Int) (hc : c ≠ 59) (hd : ¬ (48 ≤ c ∧ c ≤ 57)) :
    rast (34 :: (DG p ++ 59 :: (DG q ++ 59 :: (DG r ++ 59 :: (DG s ++ [c]))))) = ([(p : Int), q, r, s], (DG p).length + (DG q).length + (DG r).length + (DG s).length + 4) := by
  unfold rast
  rw [if_neg (by simp)]
  simp only [List.drop_succ_cons, List.drop_zero]
  rw [nums_dig 3 p _ 0 _ hp (by simp) rfl, nums_semi 3 _ _ _ (by decide), nums_dig 3 q _ 1 _ hq (by simp) rfl, nums_semi 3 _ _ _ (by decide), nums_dig 3 r _ 2 _ hr (by simp) rfl, nums_semi 3 _ _ _ (by decide), nums_dig 3 s _ 3 _ hs (by simp) rfl, nums_stop 3 c hc hd]
  simp
  omega
theorem colr_back (p q r s z : Nat) (hp : p ≤ 1000000000000000) (hq : q ≤ 1000000000000000) (hr : r ≤ 1000000000000000) (hs : s ≤ 1000000000000000) (hz : z ≤ 1000000000000000) (c : Int) (hc : c ≠ 59) (hd : ¬ (48 ≤ c ∧ c ≤ 57)) :
    colr (35 :: (DG p ++ 59 :: (DG q ++ 59 :: (DG r ++ 59 :: (DG s ++ 59 :: (DG z ++ [c])))))) = ([(p : Int), q], [(r : Int), s, z], (DG p).length + (DG q).length + (DG r).length + (DG s).length + (DG z).length + 5) := by
  have e1 : nums 1 (DG p ++ 59 :: (DG q ++ 59 :: (DG r ++ 59 :: (DG s ++ 59 :: (DG z ++ [c]))))) 0 [0, 0] = ([(p : Int), q], (DG p).length + (DG q).length + 2) := by
    rw [nums_dig 1 p _ 0 _ hp (by simp) rfl, nums_semi 1 _ _ _ (by decide), nums_dig 1 q _ 1 _ hq (by simp) rfl, nums_last 1 _ _ _ rfl]
    simp
    omega
  have e2 : List.drop ((DG p).length + (DG q).length + 2 + 1) (35 :: (DG p ++ 59 :: (DG q ++ 59 :: (DG r ++ 59 :: (DG s ++ 59 :: (DG z ++ [c])))))) = DG r ++ 59 :: (DG s ++ 59 :: (DG z ++ [c])) := by
    have e3 : 35 :: (DG p ++ 59 :: (DG q ++ 59 :: (DG r ++ 59 :: (DG s ++ 59 :: (DG z ++ [c]))))) = (35 :: (DG p ++ 59 :: (DG q ++ [59]))) ++ (DG r ++ 59 :: (DG s ++ 59 :: (DG z ++ [c]))) := by simp
    rw [e3]
    apply List.drop_left'
    simp
    omega
  have e4 : nums 2 (DG r ++ 59 :: (DG s ++ 59 :: (DG z ++ [c]))) 0 [0, 0, 0] = ([(r : Int), s, z], (DG r).length + (DG s).length + (DG z).length + 2) := by
    rw [nums_dig 2 r _ 0 _ hr (by simp) rfl, nums_semi 2 _ _ _ (by decide), nums_dig 2 s _ 1 _ hs (by simp) rfl, nums_semi 2 _ _ _ (by decide), nums_dig 2 z _ 2 _ hz (by simp) rfl, nums_stop 2 c hc hd]
    simp
    omega
  unfold colr
  rw [if_neg (by have := DG_pos p; simp; omega)]
  simp only [List.drop_succ_cons, List.drop_zero]
  rw [e1]
  simp only [List.drop_succ_cons] at e2
  simp only [List.drop_succ_cons]
  rw [e2, e4]
  simp
  omega
end Go.Proofs.YtjicpadeplminaaDoor.Nums
