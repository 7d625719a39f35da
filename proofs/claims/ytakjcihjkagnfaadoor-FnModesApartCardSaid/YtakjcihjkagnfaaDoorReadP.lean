/- Control sequences that are put together of digits, read: the plain function on them. No walk. -/
import Derived.Test.YtakjcihjkagnfaaDoorReadW3
import Derived.Lib.ItoaMem
import Derived.Lib.ItoaLen
namespace Go.Proofs.YtakjcihjkagnfaaDoor.Or
set_option linter.unusedSimpArgs false
open Go Go.RowKit Go.Proofs.YtakjcihjkagnfaaDoorW.PrintWords Go.Proofs.YtakjcihjkagnfaaDoorW.PrintLast

/-- The digits of a number, as numbers of bytes. -/
def DG (u : Nat) : List Int := (Lib.decDigits u).map fun c => (c.toNat : Int)
theorem DG_small (u : Nat) (h : u < 10) : DG u = [(48 + u : Int)] := by
  unfold DG
  rw [Lib.decDigits, dif_pos h]
  simp only [List.map_cons, List.map_nil, UInt8.toNat_ofNat']
  congr 1
  omega
theorem DG_big (u : Nat) (h : ¬ u < 10) : DG u = DG (u / 10) ++ [(48 + u % 10 : Int)] := by
  unfold DG
  conv => lhs; rw [Lib.decDigits, dif_neg h]
  simp only [List.map_append, List.map_cons, List.map_nil, UInt8.toNat_ofNat']
  congr 2
  omega
theorem DG_len (u : Nat) (h : u < 18446744073709551616) : (DG u).length ≤ 20 := by
  unfold DG
  rw [List.length_map, Lib.decDigits_length]
  exact Lib.nDigits_le20 u h
theorem DG_cons (u : Nat) : ∃ c t, DG u = c :: t ∧ 48 ≤ c ∧ c ≤ 57 := by
  induction u using Nat.strongRecOn with
  | _ u ih =>
    by_cases h : u < 10
    · exact ⟨_, [], DG_small u h, by omega, by omega⟩
    · obtain ⟨c, t, e, h1, h2⟩ := ih (u / 10) (by omega)
      exact ⟨c, t ++ [(48 + u % 10 : Int)], by rw [DG_big u h, e]; rfl, h1, h2⟩
theorem bytes_dig (u : Nat) : bytesOf (⟨(Lib.itoa (u : Int)).toArray⟩ : ByteArray) = DG u := by
  unfold DG bytesOf
  rw [Lib.itoa_nonneg]
theorem bytes_app (a b : ByteArray) : bytesOf (a ++ b) = bytesOf a ++ bytesOf b := by simp [bytesOf, ByteArray.data_append]

theorem scan_dig : ∀ (u : Nat) (t : List Int) (acc : List S36) (m : Bool), u ≤ 1000000 → scanP (DG u ++ t) acc 0 m = scanP t acc (u : Int) false := by
  intro u
  induction u using Nat.strongRecOn with
  | _ u ih =>
    intro t acc m hu
    by_cases h : u < 10
    · rw [DG_small u h]
      show scanP ((48 + u : Int) :: t) acc 0 m = _
      conv => lhs; unfold scanP
      rw [if_pos (by omega), if_neg (by omega), if_neg (by omega), if_neg (by omega)]
      congr 1
      omega
    · rw [DG_big u h, List.append_assoc, ih (u / 10) (by omega) _ acc m (by omega)]
      show scanP ((48 + u % 10 : Int) :: t) acc ((u / 10 : Nat) : Int) false = _
      conv => lhs; unfold scanP
      rw [if_pos (by omega), if_neg (by omega), if_neg (by omega), if_neg (by omega)]
      congr 1
      omega
theorem scan_semi' (t : List Int) (acc : List S36) (v : Int) (m : Bool) : scanP (59 :: t) acc v m = scanP t (acc ++ [⟨v, m, false⟩]) 0 true := by
  conv => lhs; unfold scanP
  rw [if_pos (by decide), if_pos rfl]
theorem scan_end' (c : Int) (hc : ¬ (48 ≤ c ∧ c ≤ 59)) (t : List Int) (acc : List S36) (v : Int) (m : Bool) : scanP (c :: t) acc v m = some (acc, v, m, c :: t) := by
  unfold scanP
  rw [if_neg hc]
theorem pre_digit {c : Int} {t : List Int} (h1 : 48 ≤ c) (h2 : c ≤ 57) : pre (c :: t) = (0, c :: t) := by
  show (if 60 ≤ c ∧ c ≤ 63 then (c, t) else (0, c :: t)) = _
  rw [if_neg (by omega)]
theorem pre_dig (u : Nat) (t : List Int) : pre (DG u ++ t) = (0, DG u ++ t) := by
  obtain ⟨c, q, e, h1, h2⟩ := DG_cons u
  rw [e]
  exact pre_digit h1 h2
theorem scanI_stop (c : Int) (hc : 64 ≤ c) (is : List Int) : scanI [c] is = (is, [c]) := by
  unfold scanI
  rw [if_neg (by omega)]
end Go.Proofs.YtakjcihjkagnfaaDoor.Or
