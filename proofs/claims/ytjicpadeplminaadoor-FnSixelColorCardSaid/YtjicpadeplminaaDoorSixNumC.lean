/- The reference's SixelNumber tells a number's digits as strconv.Itoa does. No memory, no Go. -/
import Derived.Test.YtjicpadeplminaaDoorPCx1
import Derived.Lib.ItoaMem
namespace Go.Proofs.YtjicpadeplminaaDoor.SixNum
set_option linter.unusedSimpArgs false
open Go Go.RowKit Go.Proofs.YtjicpadeplminaaDoor.PC Go.Proofs.YtjicpadeplminaaDoor.Bld Go.Proofs.YtjicpadeplminaaDoorW.PrintWords Go.Proofs.YtjicpadeplminaaDoorW.PrintLast

def DI (u : Nat) : List Int := (Lib.decDigits u).map fun c => (c.toNat : Int)

theorem DI_small (u : Nat) (h : u < 10) : DI u = [(48 + u : Int)] := by
  unfold DI
  rw [Lib.decDigits, dif_pos h]
  simp only [List.map_cons, List.map_nil, UInt8.toNat_ofNat']
  congr 1
  omega
theorem DI_big (u : Nat) (h : ¬ u < 10) : DI u = DI (u / 10) ++ [(48 + u % 10 : Int)] := by
  unfold DI
  conv => lhs; rw [Lib.decDigits, dif_neg h]
  simp only [List.map_append, List.map_cons, List.map_nil, UInt8.toNat_ofNat']
  congr 2
  omega
theorem DI_len (u : Nat) (h : u < 18446744073709551616) : (DI u).length ≤ 20 := by
  unfold DI
  rw [List.length_map, Lib.decDigits_length]
  exact Lib.nDigits_le20 u h

def cont (k : Nat) (n : Int) (y : List Int) : Option ByteArray := if n < 0 then (if y.length < 140737488355328 then spec_SixelNumber.j2 k (y ++ [45]) else none) else spec_SixelNumber.j2 k y

theorem last (k u : Nat) (n : Int) (acc : List Int) (hu : u < 10) (ha : acc.length < 1000) : spec_SixelNumber.l0 (k + 1) n acc (u : Int) = cont k n (acc ++ (DI u).reverse) := by
  simp only [spec_SixelNumber.l0]
  rw [if_neg (by omega), if_pos (by omega), DI_small u hu]
  have e : (IntKind.u64.wrap (48 + (u : Int))) % 256 = 48 + (u : Int) := by rw [IntKind.wrap_u64]; omega
  rw [e]
  rfl

theorem fwd : ∀ (m k u : Nat) (n : Int) (acc : List Int), u < 10 ^ (m + 1) → u < 18446744073709551616 → acc.length + m < 900 → ∃ k', k ≤ k' ∧ spec_SixelNumber.l0 (k + m + 1) n acc (u : Int) = cont k' n (acc ++ (DI u).reverse) := by
  intro m
  induction m with
  | zero =>
    intro k u n acc hu _ ha
    exact ⟨k, Nat.le_refl _, last k u n acc (by simpa using hu) (by omega)⟩
  | succ m ih =>
    intro k u n acc hu h64 ha
    by_cases h10 : u < 10
    · exact ⟨k + m + 1, by omega, last (k + m + 1) u n acc h10 (by omega)⟩
    · have hq : u / 10 < 10 ^ (m + 1) := by
        have : u < 10 ^ (m + 1) * 10 := by rw [← Nat.pow_succ]; exact hu
        omega
      obtain ⟨k', hk, e⟩ := ih k (u / 10) n (acc ++ [(48 + u % 10 : Int)]) hq (by omega) (by simp; omega)
      refine ⟨k', hk, ?_⟩
      show spec_SixelNumber.l0 (k + m + 1 + 1) n acc (u : Int) = _
      obtain ⟨K, hK⟩ : ∃ K, K = k + m + 1 := ⟨_, rfl⟩
      rw [← hK] at e ⊢
      simp only [spec_SixelNumber.l0]
      have e1 : (IntKind.u64.wrap (48 + (Int.tmod (u : Int) 10))) % 256 = (48 + u % 10 : Int) := by
        rw [Int.tmod_eq_emod_of_nonneg (by omega), IntKind.wrap_u64]; omega
      have e2 : IntKind.u64.wrap (Int.tdiv (u : Int) 10) = ((u / 10 : Nat) : Int) := by
        rw [Int.tdiv_eq_ediv_of_nonneg (by omega), IntKind.wrap_u64]; omega
      rw [if_pos (by omega), if_pos (by omega), e1, e2, e, DI_big u h10]
      simp

theorem turn : ∀ (d k : Nat) (mid p q : List Int), mid.length ≤ 2 * d + 1 → p.length + mid.length + q.length < 1000 →
    spec_SixelNumber.l1 (k + d + 1) (p ++ mid ++ q) (p.length : Int) ((p.length : Int) + mid.length - 1) = some (strOfNums (p ++ mid.reverse ++ q)) := by
  intro d
  induction d with
  | zero =>
    intro k mid p q hm _
    show spec_SixelNumber.l1 (k + 1) _ _ _ = _
    simp only [spec_SixelNumber.l1]
    rw [if_neg (by omega)]
    match mid, hm with
    | [], _ => simp
    | [a], _ => simp
  | succ d ih =>
    intro k mid p q hm hl
    show spec_SixelNumber.l1 (k + d + 1 + 1) _ _ _ = _
    by_cases h2 : mid.length < 2
    · simp only [spec_SixelNumber.l1]
      rw [if_neg (by omega)]
      match mid, h2 with
      | [], _ => simp
      | [a], _ => simp
    · obtain ⟨K, hK⟩ : ∃ K, K = k + d + 1 := ⟨_, rfl⟩
      rw [← hK]
      obtain ⟨a, m, b, rfl⟩ : ∃ a m b, mid = a :: (m ++ [b]) := by
        match mid, h2 with
        | a :: t, h2 =>
          have ht : t ≠ [] := by intro e; simp [e] at h2
          exact ⟨a, t.dropLast, t.getLast ht, by rw [List.dropLast_concat_getLast ht]⟩
      simp only [List.length_cons, List.length_append, List.length_nil] at hm hl h2 ⊢
      simp only [spec_SixelNumber.l1]
      have hlen : ((p ++ a :: (m ++ [b]) ++ q).length : Int) = p.length + (m.length + 2) + q.length := by simp; omega
      have rb : rd (p ++ a :: (m ++ [b]) ++ q) ((p.length : Int) + ((m.length + (0 + 1) + 1 : Nat) : Int) - 1) = b := by
        unfold rd
        have e : ((p.length : Int) + ((m.length + (0 + 1) + 1 : Nat) : Int) - 1).toNat = p.length + (m.length + 1) := by omega
        rw [e]
        simp [List.getD_eq_getElem?_getD, List.getElem?_append]
      have ra : rd (p ++ a :: (m ++ [b]) ++ q) (p.length : Int) = a := by
        unfold rd
        simp [List.getD_eq_getElem?_getD, List.getElem?_append]
      rw [if_pos (by omega), if_pos (by omega), if_pos (by rw [hlen]; omega), if_pos (by omega), if_pos (by rw [hlen]; omega), rb, ra]
      have hset : ((p ++ a :: (m ++ [b]) ++ q).set ((p.length : Int)).toNat b).set ((p.length : Int) + ((m.length + (0 + 1) + 1 : Nat) : Int) - 1).toNat a = (p ++ [b]) ++ m ++ (a :: q) := by
        have e : ((p.length : Int) + ((m.length + (0 + 1) + 1 : Nat) : Int) - 1).toNat = p.length + (m.length + 1) := by omega
        rw [e, Int.toNat_natCast]
        simp [List.set_append]
      rw [hset]
      have w1 : wrap64 ((p.length : Int) + 1) = ((p ++ [b]).length : Int) := by unfold wrap64; simp; omega
      have w2 : wrap64 ((p.length : Int) + ((m.length + (0 + 1) + 1 : Nat) : Int) - 1 - 1) = ((p ++ [b]).length : Int) + m.length - 1 := by unfold wrap64; simp; omega
      rw [w1, w2, hK, ih k m (p ++ [b]) (a :: q) (by omega) (by simp; omega)]
      simp

theorem nums_of (l : List UInt8) : strOfNums (l.map fun c => (c.toNat : Int)) = ⟨l.toArray⟩ := by
  unfold strOfNums
  simp [List.map_map, Function.comp_def]

theorem back (k : Nat) (l : List UInt8) (hl : l.length < 900) (hk : 500 < k) : spec_SixelNumber.j2 k ((l.map fun c => (c.toNat : Int)).reverse) = some ⟨l.toArray⟩ := by
  obtain ⟨k, rfl⟩ : ∃ m, k = m + 450 + 1 + 1 := ⟨k - 452, by omega⟩
  simp only [spec_SixelNumber.j2]
  have h := turn 450 k ((l.map fun c => (c.toNat : Int)).reverse) [] [] (by simp; omega) (by simp; omega)
  simp only [List.nil_append, List.append_nil, List.reverse_reverse, nums_of, List.length_nil] at h
  have w : wrap64 ((((l.map fun c => (c.toNat : Int)).reverse).length : Int) - 1) = ((0 : Nat) : Int) + (((l.map fun c => (c.toNat : Int)).reverse).length : Int) - 1 := by unfold wrap64; simp; omega
  rw [w]
  exact h

theorem number (n : Int) (h0 : -9223372036854775808 ≤ n) (h1 : n ≤ 9223372036854775807) : spec_SixelNumber.f 1000 n = some (digs n) := by
  have big : ∀ u : Nat, u < 18446744073709551616 → u < 10 ^ (19 + 1) := fun u hu => Nat.lt_of_lt_of_le hu (by decide)
  unfold spec_SixelNumber.f
  by_cases hn : n < 0
  · obtain ⟨u, hu⟩ : ∃ u : Nat, -n = (u : Int) := Int.eq_ofNat_of_zero_le (by omega)
    have e : IntKind.u64.wrap (-(IntKind.u64.wrap n)) = (u : Int) := by rw [IntKind.wrap_u64, IntKind.wrap_u64]; omega
    rw [if_pos hn, e]
    simp only [spec_SixelNumber.j0]
    obtain ⟨k', hk, ef⟩ := fwd 19 979 u n [] (big u (by omega)) (by omega) (by simp)
    rw [ef]
    unfold cont
    have hl := DI_len u (by omega)
    rw [if_pos hn, if_pos (by simp; omega), List.nil_append]
    have er : (DI u).reverse ++ [45] = (((45 : UInt8) :: Lib.decDigits u).map fun c => (c.toNat : Int)).reverse := by simp [DI]
    rw [er, back k' _ (by have : (Lib.decDigits u).length ≤ 20 := by simpa [DI] using hl
                          simp; omega) (by omega)]
    have en : n = -(u : Int) := by omega
    rw [en]
    unfold digs
    rw [Lib.itoa_neg u (by omega)]
  · obtain ⟨u, rfl⟩ := Int.eq_ofNat_of_zero_le (by omega : 0 ≤ n)
    have e : IntKind.u64.wrap (u : Int) = (u : Int) := by rw [IntKind.wrap_u64]; omega
    rw [if_neg hn, e]
    simp only [spec_SixelNumber.j0]
    obtain ⟨k', hk, ef⟩ := fwd 19 979 u (u : Int) [] (big u (by omega)) (by omega) (by simp)
    rw [ef]
    unfold cont
    have hl := DI_len u (by omega)
    rw [if_neg hn, List.nil_append]
    have hl2 : (Lib.decDigits u).length ≤ 20 := by simpa [DI] using hl
    unfold DI
    rw [back k' _ (by omega) (by omega)]
    unfold digs
    rw [Lib.itoa_nonneg]

end Go.Proofs.YtjicpadeplminaaDoor.SixNum
