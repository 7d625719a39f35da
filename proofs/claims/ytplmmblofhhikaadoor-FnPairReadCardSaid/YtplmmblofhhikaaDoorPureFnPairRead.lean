/- It is proved that the law FnPairRead answers true: a position, margins, and a report of a position are read as one control sequence with both numbers; for the functions 0 to 4 and numbers from 1 to 100000 (others are let pass), with no further condition. -/
import Derived.Test.YtplmmblofhhikaaDoorPVx6
import Derived.Test.YtplmmblofhhikaaDoorReadP
import Derived.Test.YtplmmblofhhikaaDoorAwakeV
namespace Go.Proofs.YtplmmblofhhikaaDoor.Pure
set_option linter.unusedSimpArgs false
open Go Go.RowKit Go.Proofs.YtplmmblofhhikaaDoor.PV Go.Proofs.YtplmmblofhhikaaDoor.Or Go.Proofs.YtplmmblofhhikaaDoor.Aw Go.Proofs.YtplmmblofhhikaaDoorW.PrintWords Go.Proofs.YtplmmblofhhikaaDoorW.PrintLast

def dgn (u : Nat) : ByteArray := ⟨(Lib.itoa (u : Int)).toArray⟩
theorem itoa_n (u : Nat) (h : u ≤ 1000000) : strconv_Itoa.f (u : Int) = some (dgn u) := by
  unfold strconv_Itoa.f
  rw [if_pos (by omega)]
  rfl
theorem dgn_size (u : Nat) (h : u ≤ 1000000) : (dgn u).size ≤ 21 := by
  have := Lib.itoa_length_le (u : Int) (by omega) (by omega)
  show (Lib.itoa (u : Int)).toArray.size ≤ 21
  simpa using this
/-- Two numbers with a semicolon between. -/
def two (x y : Nat) (f : UInt8) : ByteArray := (((((⟨#[27, 91]⟩ : ByteArray) ++ dgn x) ++ (⟨#[59]⟩ : ByteArray)) ++ dgn y) ++ (⟨#[f]⟩ : ByteArray))
theorem two_bytes (x y : Nat) (f : UInt8) : bytesOf (two x y f) = 27 :: 91 :: (DG x ++ 59 :: (DG y ++ [(f.toNat : Int)])) := by
  unfold two dgn
  simp only [bytes_app, bytes_dig]
  simp [bytesOf]
theorem two_size (x y : Nat) (hx : x ≤ 1000000) (hy : y ≤ 1000000) (f : UInt8) : (two x y f).size ≤ 60 := by
  have h1 := dgn_size x hx
  have h2 := dgn_size y hy
  unfold two
  simp only [ByteArray.size_append]
  show 2 + _ + 1 + _ + 1 ≤ 60
  omega
theorem read_two (x y : Nat) (hx : x ≤ 1000000) (hy : y ≤ 1000000) (f : UInt8) (h0 : 64 ≤ f.toNat) (h1 : f.toNat ≤ 126) :
    spec_ReadSequence.f (bytesOf (two x y f)) = some (1, 0, [⟨x, false, false⟩, ⟨y, false, false⟩], [], (f.toNat : Int), [], false, true) := by
  have hs := two_size x y hx hy f
  unfold spec_ReadSequence.f
  rw [if_pos (by rw [bytesOf_length]; omega), two_bytes]
  have e : readT (27 :: 91 :: (DG x ++ 59 :: (DG y ++ [(f.toNat : Int)]))) = some (0, [⟨x, false, false⟩, ⟨y, false, false⟩], [], (f.toNat : Int)) := by
    show body _ = _
    unfold body
    rw [pre_dig, scan_dig x _ _ _ hx, scan_semi', scan_dig y _ _ _ hy, scan_end' _ (by omega)]
    simp only [scanI_stop _ (by omega : (64 : Int) ≤ (f.toNat : Int))]
    rw [if_pos (by omega), if_pos (by simp; omega)]
    rfl
  rw [e]
  rfl
theorem read_home : spec_ReadSequence.f (bytesOf (⟨#[27, 91, 72]⟩ : ByteArray)) = some (1, 0, [], [], 72, [], false, true) := by
  have e : bytesOf (⟨#[27, 91, 72]⟩ : ByteArray) = [27, 91, 72] := rfl
  rw [e]
  unfold spec_ReadSequence.f
  rw [if_pos (by simp)]
  have e2 : readT [27, 91, 72] = some (0, [], [], 72) := by
    show body [72] = _
    unfold body
    have p : pre [72] = (0, [72]) := rfl
    rw [p]
    simp only
    rw [scan_end' 72 (by decide)]
    simp only [scanI_stop 72 (by decide)]
    rw [if_pos (by decide), if_neg (by simp)]
  rw [e2]
  rfl

/-- The sequence and what is read of it. -/
def Read (c : Int) (x y : Nat) (K : Nat) : Prop := ∃ t f, impl_MakePair.f K c x y = some t ∧ t.size ≤ 60 ∧ bt (⟨#[72, 102, 114, 115, 82]⟩ : ByteArray) c = f ∧
  ((c = 0 ∧ x ≤ 1 ∧ y ≤ 1 ∧ spec_ReadSequence.f (bytesOf t) = some (1, 0, [], [], f, [], false, true)) ∨
   (spec_ReadSequence.f (bytesOf t) = some (1, 0, if c < 2 then [⟨y, false, false⟩, ⟨x, false, false⟩] else [⟨x, false, false⟩, ⟨y, false, false⟩], [], f, [], false, true)))

theorem reads (c : Int) (h0 : 0 ≤ c) (h4 : c ≤ 4) (x y : Nat) (hx0 : 1 ≤ x) (hy0 : 1 ≤ y) (hx : x ≤ 100000) (hy : y ≤ 100000) (K : Nat) : Read c x y (K + 2) := by
  have zx := dgn_size x (by omega)
  have zy := dgn_size y (by omega)
  have ix := itoa_n x (by omega)
  have iy := itoa_n y (by omega)
  have hc : c = 0 ∨ c = 1 ∨ c = 2 ∨ c = 3 ∨ c = 4 := by omega
  rcases hc with rfl | rfl | rfl | rfl | rfl
  · by_cases hh : y ≤ 1 ∧ x ≤ 1
    · refine ⟨⟨#[27, 91, 72]⟩, 72, ?_, by decide, rfl, Or.inl ⟨rfl, hh.2, hh.1, read_home⟩⟩
      unfold impl_MakePair.f xansi_CursorPosition.f
      rw [if_pos rfl, if_pos (by omega), decide_eq_true (by omega : (x : Int) ≤ 1)]
      simp only [xansi_CursorPosition.j0, if_true, Option.bind_some]
    · refine ⟨two y x 72, 72, ?_, two_size y x (by omega) (by omega) 72, rfl, Or.inr ?_⟩
      · have hj : xansi_CursorPosition.f (K + 2) x y = some (two y x 72) := by
          have hj0 : xansi_CursorPosition.j0 (K + 2) x y false = some (two y x 72) := by
            simp only [xansi_CursorPosition.j0, Bool.false_eq_true, if_false]
            rw [if_pos (by omega), iy, Option.bind_some, if_pos (by omega), ix, Option.bind_some, if_pos (by omega), if_pos (by omega), if_pos (by omega), if_pos (by omega)]
            rfl
          unfold xansi_CursorPosition.f
          by_cases h1 : (y : Int) ≤ 1
          · rw [if_pos h1, decide_eq_false (by omega : ¬ (x : Int) ≤ 1)]; exact hj0
          · rw [if_neg h1]; exact hj0
        unfold impl_MakePair.f
        rw [if_pos rfl, hj]
        rfl
      · rw [read_two y x (by omega) (by omega) 72 (by decide) (by decide)]
        rfl
  · refine ⟨two y x 102, 102, ?_, two_size y x (by omega) (by omega) 102, rfl, Or.inr ?_⟩
    · unfold impl_MakePair.f xansi_HorizontalVerticalPosition.f
      rw [if_neg (by decide), if_pos rfl, if_pos (by omega), iy, Option.bind_some, if_pos (by omega), ix, Option.bind_some, if_pos (by omega), if_pos (by omega), if_pos (by omega), if_pos (by omega)]
      rfl
    · rw [read_two y x (by omega) (by omega) 102 (by decide) (by decide)]
      rfl
  · refine ⟨two x y 114, 114, ?_, two_size x y (by omega) (by omega) 114, rfl, Or.inr ?_⟩
    · unfold impl_MakePair.f xansi_SetTopBottomMargins.f
      rw [if_neg (by decide), if_neg (by decide), if_pos rfl, if_pos (by omega), ix, Option.bind_some, if_pos (by omega), iy, Option.bind_some, if_pos (by omega), if_pos (by omega), if_pos (by omega), if_pos (by omega)]
      rfl
    · rw [read_two x y (by omega) (by omega) 114 (by decide) (by decide)]
      rfl
  · refine ⟨two x y 115, 115, ?_, two_size x y (by omega) (by omega) 115, rfl, Or.inr ?_⟩
    · unfold impl_MakePair.f xansi_SetLeftRightMargins.f
      rw [if_neg (by decide), if_neg (by decide), if_neg (by decide), if_pos rfl, if_pos (by omega), ix, Option.bind_some, if_pos (by omega), iy, Option.bind_some, if_pos (by omega), if_pos (by omega), if_pos (by omega), if_pos (by omega)]
      rfl
    · rw [read_two x y (by omega) (by omega) 115 (by decide) (by decide)]
      rfl
  · refine ⟨two x y 82, 82, ?_, two_size x y (by omega) (by omega) 82, rfl, Or.inr ?_⟩
    · unfold impl_MakePair.f xansi_CursorPositionReport.f
      rw [if_neg (by decide), if_neg (by decide), if_neg (by decide), if_neg (by decide), if_pos rfl, if_neg (by omega)]
      simp only [xansi_CursorPositionReport.j0]
      rw [if_neg (by omega), ix, Option.bind_some, if_pos (by omega), if_pos (by omega), iy, Option.bind_some, if_pos (by omega), if_pos (by omega)]
      rfl
    · rw [read_two x y (by omega) (by omega) 82 (by decide) (by decide)]
      rfl

theorem w01 : wrap64 (0 + 1) = 1 := by unfold wrap64; omega
theorem w12 : wrap64 (1 + 1) = 2 := by unfold wrap64; omega
theorem loop_two (k : Nat) (c : Int) (x y p q : Nat) : laws_FnPairRead.l0 (k + 3) c x y [⟨p, false, false⟩, ⟨q, false, false⟩] 2 0 1 1 = if c < 2 then some ((q : Int) == x && ((p : Int) == y)) else some ((p : Int) == x && ((q : Int) == y)) := by
  have r0 : (rd_T36 [⟨p, false, false⟩, ⟨q, false, false⟩] 0) = ⟨p, false, false⟩ := rfl
  have r1 : (rd_T36 [⟨p, false, false⟩, ⟨q, false, false⟩] 1) = ⟨q, false, false⟩ := rfl
  simp only [laws_FnPairRead.l0, List.length_cons, List.length_nil, r0, w01, r1, w12, awake, Option.bind_some, if_true]
  by_cases hc : c < 2 <;> simp [hc]
theorem loop_none (k : Nat) (c : Int) (x y : Nat) : laws_FnPairRead.l0 (k + 1) c x y [] 0 0 1 1 = if c < 2 then some ((1 : Int) == x && ((1 : Int) == y)) else some ((1 : Int) == x && ((1 : Int) == y)) := by
  simp only [laws_FnPairRead.l0, awake, Option.bind_some, if_true]
  by_cases hc : c < 2 <;> simp [hc]

theorem FnPairRead : laws_FnPairRead.Pure := by
  intro c a b hc ha hb
  have hc := wf_i64 hc
  have yes : ∀ k, laws_FnPairRead.j0 (k + 1) c a b true = some true := fun k => by simp only [laws_FnPairRead.j0, if_true, awake, Option.bind_some]
  refine ⟨10, ?_⟩
  unfold laws_FnPairRead.f
  by_cases c0 : c < 0
  · rw [if_pos c0]; exact yes 9
  by_cases c4 : c > 4
  · rw [if_neg c0, if_pos c4]; exact yes 9
  by_cases a1 : a < 1
  · rw [if_neg c0, if_neg c4, if_pos a1]; exact yes 9
  by_cases b1 : b < 1
  · rw [if_neg c0, if_neg c4, if_neg a1, if_pos b1]; exact yes 9
  by_cases a2 : a > 100000
  · rw [if_neg c0, if_neg c4, if_neg a1, if_neg b1, if_pos a2]; exact yes 9
  by_cases b2 : b > 100000
  · rw [if_neg c0, if_neg c4, if_neg a1, if_neg b1, if_neg a2, decide_eq_true b2]; exact yes 9
  rw [if_neg c0, if_neg c4, if_neg a1, if_neg b1, if_neg a2, decide_eq_false b2]
  obtain ⟨x, rfl⟩ := Int.eq_ofNat_of_zero_le (by omega : 0 ≤ a)
  obtain ⟨y, rfl⟩ := Int.eq_ofNat_of_zero_le (by omega : 0 ≤ b)
  obtain ⟨t, f, h1, h2, h3, h4⟩ := reads c (by omega) (by omega) x y (by omega) (by omega) (by omega) (by omega) 7
  simp only [laws_FnPairRead.j0, Bool.false_eq_true, if_false, h1, Option.bind_some]
  rw [if_pos (by omega)]
  rcases h4 with ⟨hc0, hx1, hy1, h5⟩ | h5
  · rw [h5]
    simp only [Option.bind_some, if_true, List.length_nil]
    rw [if_neg (by decide), if_pos (by omega), if_pos (by omega), if_pos h3.symm]
    simp only [laws_FnPairRead.j1]
    rw [if_neg (by simp)]
    have := loop_none 7 c x y
    simp only [List.length_nil, Int.ofNat_zero, Int.natCast_zero] at this ⊢
    rw [this]
    have e1 : x = 1 := by omega
    have e2 : y = 1 := by omega
    subst e1 e2
    split <;> rfl
  · rw [h5]
    by_cases hc2 : c < 2
    · simp only [if_pos hc2, Option.bind_some, if_true, List.length_nil]
      rw [if_neg (by decide), if_pos (by omega), if_pos (by omega), if_pos h3.symm]
      simp only [laws_FnPairRead.j1, List.length_cons, List.length_nil]
      rw [if_neg (by simp), show ((0 + 1 + 1 : Nat) : Int) = 2 from rfl, loop_two 5 c x y y x, if_pos hc2]
      simp
    · simp only [if_neg hc2, Option.bind_some, if_true, List.length_nil]
      rw [if_neg (by decide), if_pos (by omega), if_pos (by omega), if_pos h3.symm]
      simp only [laws_FnPairRead.j1, List.length_cons, List.length_nil]
      rw [if_neg (by simp), show ((0 + 1 + 1 : Nat) : Int) = 2 from rfl, loop_two 5 c x y x y, if_neg hc2]
      simp
end Go.Proofs.YtplmmblofhhikaaDoor.Pure
