/- It is proved that the law FnNumberRead answers true: what a function of one number makes is read as one control sequence with its bytes and the number; for the functions of the reference's table (but number 23) and numbers from the least one to 100000 (others are let pass), with no further condition. -/
import Derived.Test.YtplmmblofhhikaaDoorPUx5
import Derived.Test.YtplmmblofhhikaaDoorReadP
import Derived.Test.YtplmmblofhhikaaDoorAwakeU
namespace Go.Proofs.YtplmmblofhhikaaDoor.Pure
set_option linter.unusedSimpArgs false
open Go Go.RowKit Go.Proofs.YtplmmblofhhikaaDoor.PU Go.Proofs.YtplmmblofhhikaaDoor.Or Go.Proofs.YtplmmblofhhikaaDoor.Aw Go.Proofs.YtplmmblofhhikaaDoorW.PrintWords Go.Proofs.YtplmmblofhhikaaDoorW.PrintLast

theorem wf_i64 {a : Int} (h : (Lit.int .i64 a).wf = true) : -9223372036854775808 ≤ a ∧ a ≤ 9223372036854775807 := by
  have h1 : (decide ((-9223372036854775808 : Int) ≤ a) && decide (a ≤ 9223372036854775807)) = true := h
  simp only [Bool.and_eq_true, decide_eq_true_eq] at h1
  omega
def dgn (u : Nat) : ByteArray := ⟨(Lib.itoa (u : Int)).toArray⟩
theorem itoa_n (u : Nat) (h : u ≤ 1000000) : strconv_Itoa.f (u : Int) = some (dgn u) := by
  unfold strconv_Itoa.f
  rw [if_pos (by omega)]
  rfl
theorem dgn_size (u : Nat) (h : u ≤ 1000000) : (dgn u).size ≤ 21 := by
  have := Lib.itoa_length_le (u : Int) (by omega) (by omega)
  show (Lib.itoa (u : Int)).toArray.size ≤ 21
  simpa using this
/-- A number between two texts, left out where it is not above a least one. -/
def sandN (p q : ByteArray) (l : Int) (u : Nat) : ByteArray := (p ++ (if (u : Int) > l then dgn u else ⟨#[]⟩)) ++ q
def D (l : Int) (u : Nat) : List Int := if (u : Int) > l then DG u else []
theorem sand_bytes (p q : ByteArray) (l : Int) (u : Nat) : bytesOf (sandN p q l u) = bytesOf p ++ (D l u ++ bytesOf q) := by
  unfold sandN D dgn
  simp only [bytes_app, List.append_assoc]
  split
  · rw [bytes_dig]
  · rfl
theorem sand_size (p q : ByteArray) (l : Int) (u : Nat) (hu : u ≤ 1000000) (hp : p.size ≤ 5) (hq : q.size ≤ 5) : (sandN p q l u).size ≤ 40 := by
  have := dgn_size u hu
  have z : (⟨#[]⟩ : ByteArray).size = 0 := rfl
  unfold sandN
  simp only [ByteArray.size_append]
  split <;> omega

/-- What stands behind the introducer is read. -/
theorem read_body (P : List Int) (p : Int) (I : List Int) (f : Int) (l : Int) (u : Nat) (hu : u ≤ 1000000) (hp : (P = [] ∧ p = 0) ∨ (P = [p] ∧ 60 ≤ p ∧ p ≤ 63)) (hI : I = [] ∨ I = [36]) (h0 : 64 ≤ f) (h1 : f ≤ 126) :
    body (P ++ (D l u ++ (I ++ [f]))) = some (p, if (u : Int) > l then [⟨u, false, false⟩] else [], I, f) := by
  have hpre : pre (P ++ (D l u ++ (I ++ [f]))) = (p, D l u ++ (I ++ [f])) := by
    rcases hp with ⟨rfl, rfl⟩ | ⟨rfl, h60, h63⟩
    · unfold D
      split
      · exact pre_dig u _
      · rcases hI with rfl | rfl
        · show pre [f] = (0, [f])
          simp only [pre]
          rw [if_neg (by omega)]
        · rfl
    · show pre (p :: (D l u ++ (I ++ [f]))) = _
      simp only [pre]
      rw [if_pos (by omega)]
  have hsi : scanI (I ++ [f]) [] = (I, [f]) := by
    rcases hI with rfl | rfl
    · exact scanI_stop f h0 []
    · show scanI (36 :: [f]) [] = _
      unfold scanI
      rw [if_pos (by decide)]
      exact scanI_stop f h0 [36]
  have hse : ∀ (v : Int) (m : Bool), scanP (I ++ [f]) [] v m = some ([], v, m, I ++ [f]) := by
    intro v m
    rcases hI with rfl | rfl
    · exact scan_end' f (by omega) [] [] v m
    · exact scan_end' 36 (by decide) [f] [] v m
  unfold body
  rw [hpre]
  simp only
  unfold D
  by_cases hul : (u : Int) > l
  · simp only [if_pos hul]
    rw [scan_dig u _ _ _ hu, hse]
    simp only [hsi]
    rw [if_pos (by omega), if_pos]
    · rfl
    · obtain ⟨c, t, hd, _, _⟩ := DG_cons u
      rw [hd]
      simp only [List.cons_append, List.length_cons, List.length_append]
      omega
  · simp only [if_neg hul]
    rw [List.nil_append, hse]
    simp only [hsi]
    rw [if_pos (by omega), if_neg (by omega)]
theorem read_sand (P : List Int) (p : Int) (I : List Int) (f : Int) (pB qB : ByteArray) (l : Int) (u : Nat) (hu : u ≤ 1000000) (hp : (P = [] ∧ p = 0) ∨ (P = [p] ∧ 60 ≤ p ∧ p ≤ 63)) (hI : I = [] ∨ I = [36]) (h0 : 64 ≤ f) (h1 : f ≤ 126)
    (hpB : bytesOf pB = 27 :: 91 :: P) (hqB : bytesOf qB = I ++ [f]) (zp : pB.size ≤ 5) (zq : qB.size ≤ 5) :
    spec_ReadSequence.f (bytesOf (sandN pB qB l u)) = some (1, p, if (u : Int) > l then [⟨u, false, false⟩] else [], I, f, [], false, true) := by
  have hs := sand_size pB qB l u hu zp zq
  unfold spec_ReadSequence.f
  rw [if_pos (by rw [bytesOf_length]; omega), sand_bytes, hpB, hqB]
  have e : readT ((27 :: 91 :: P) ++ (D l u ++ (I ++ [f]))) = some (p, if (u : Int) > l then [⟨u, false, false⟩] else [], I, f) := read_body P p I f l u hu hp hI h0 h1
  rw [e]
  rfl

def L : List S28 := (spec_MadeOnes.f).getD []
theorem L_is : spec_MadeOnes.f = some L := rfl
theorem L_len : (L.length : Int) = 29 := by decide

theorem one (c : Int) (hc0 : 0 ≤ c) (hc1 : c < 29) (h23 : c ≠ 23) (P : List Int) (p : Int) (I : List Int) (f : Int) (pB qB : ByteArray) (l : Int) (hl0 : 0 ≤ l) (hx : rd_T28 L c = ⟨pB, qB, l⟩)
    (hm : ∀ (K u : Nat), u ≤ 100000 → impl_MakeNumber.f K c (u : Int) = some (sandN pB qB l u))
    (hp : (P = [] ∧ p = 0) ∨ (P = [p] ∧ 60 ≤ p ∧ p ≤ 63)) (hI : I = [] ∨ I = [36]) (h0 : 64 ≤ f) (h1 : f ≤ 126) (hpB : bytesOf pB = 27 :: 91 :: P) (hqB : bytesOf qB = I ++ [f])
    (hA : (strOfNums ([27, 91] ++ P)).toList = pB.toList) (hB : ((strOfNums I) ++ (strOfNums [f])).toList = qB.toList) (zp : pB.size ≤ 5) (zq : qB.size ≤ 5) (u : Nat) (hl : l ≤ (u : Int)) (hu : u ≤ 100000) : laws_FnNumberRead.f 20 c (u : Int) = some true := by
  have hz := sand_size pB qB l u (by omega) zp zq
  have hr := read_sand P p I f pB qB l u (by omega) hp hI h0 h1 hpB hqB zp zq
  have hlen := L_len
  have hj4 : ∀ (a b : Int) (cc : List S36) (d : Bool) (e : List Int), laws_FnNumberRead.j4 15 c (u : Int) L (u : Int) ([27, 91] ++ P) a b cc I f e d = some true := by
    intro a b cc d e
    have zi : (strOfNums I).size + (strOfNums [f]).size ≤ 9223372036854775807 := by
      rw [strOfNums_size, strOfNums_size]
      rcases hI with rfl | rfl <;> simp
    simp only [laws_FnNumberRead.j4, awake, Option.bind_some, if_true, hx]
    rw [if_pos hc0, if_pos (by omega), if_pos hA, if_pos zi, hB]
    simp
  have hj3 : ∀ (a : Int) (cc : List S36) (d : Bool) (e : List Int), laws_FnNumberRead.j3 16 c (u : Int) L (u : Int) a p cc I f e d = some true := by
    intro a cc d e
    simp only [laws_FnNumberRead.j3, Option.bind_some]
    rcases hp with ⟨rfl, rfl⟩ | ⟨rfl, h60, h63⟩
    · rw [if_pos rfl]
      exact hj4 a 0 cc d e
    · rw [if_neg (by omega), if_pos (by simp)]
      exact hj4 a p cc d e
  have hj0 : laws_FnNumberRead.j0 20 c (u : Int) L false = some true := by
    simp only [laws_FnNumberRead.j0, Bool.false_eq_true, if_false, hm 19 u hu, Option.bind_some]
    rw [if_pos (by omega), hr]
    simp only [Option.bind_some, if_true]
    by_cases h : (u : Int) > l
    · simp only [if_pos h, List.length_cons, List.length_nil, laws_FnNumberRead.j1]
      rw [if_neg (by simp), if_pos hc0, if_pos (by omega), if_pos (by decide), if_pos (by decide)]
      have e0 : rd_T36 [(⟨(u : Int), false, false⟩ : S36)] 0 = ⟨u, false, false⟩ := rfl
      simp only [e0, Bool.not_false, laws_FnNumberRead.j2, if_true, List.length_cons, List.length_nil]
      rw [if_pos (by decide)]
      exact hj3 1 [⟨u, false, false⟩] false []
    · simp only [if_neg h, List.length_nil, laws_FnNumberRead.j1]
      rw [if_neg (by simp), if_pos hc0, if_pos (by omega), if_neg (by decide)]
      simp only [laws_FnNumberRead.j2, Bool.false_eq_true, if_false, hx]
      have : l = (u : Int) := by omega
      subst this
      exact hj3 1 [] false []
  unfold laws_FnNumberRead.f
  rw [L_is, Option.bind_some, if_neg (by omega), if_neg (by omega), if_neg h23, if_pos hc0, if_pos (by omega), hx, if_neg (by simp only; omega), decide_eq_false (by omega)]
  exact hj0


theorem m0 (K u : Nat) (hu : u ≤ 100000) : impl_MakeNumber.f K 0 (u : Int) = some (sandN (⟨#[27, 91]⟩ : ByteArray) (⟨#[65]⟩ : ByteArray) 1 u) := by
  have hs := dgn_size u (by omega)
  unfold sandN
  by_cases h : (u : Int) > 1
  · simp (discharger := omega) only [impl_MakeNumber.f, xansi_CursorUp.f, if_pos, if_neg, if_true, itoa_n u (by omega), Option.bind_some]
  · simp (discharger := omega) only [impl_MakeNumber.f, xansi_CursorUp.f, if_pos, if_neg, if_true, Option.bind_some]
theorem n0 (u : Nat) (hl : 1 ≤ (u : Int)) (hu : u ≤ 100000) : laws_FnNumberRead.f 20 0 (u : Int) = some true :=
  one 0 (by decide) (by decide) (by decide) [] 0 [] 65 (⟨#[27, 91]⟩ : ByteArray) (⟨#[65]⟩ : ByteArray) 1 (by decide) rfl (fun K u hu => m0 K u hu) (by decide) (by decide) (by decide) (by decide) rfl rfl (by decide +kernel) (by decide +kernel) (by decide) (by decide) u hl hu

theorem m1 (K u : Nat) (hu : u ≤ 100000) : impl_MakeNumber.f K 1 (u : Int) = some (sandN (⟨#[27, 91]⟩ : ByteArray) (⟨#[66]⟩ : ByteArray) 1 u) := by
  have hs := dgn_size u (by omega)
  unfold sandN
  by_cases h : (u : Int) > 1
  · simp (discharger := omega) only [impl_MakeNumber.f, xansi_CursorDown.f, if_pos, if_neg, if_true, itoa_n u (by omega), Option.bind_some]
  · simp (discharger := omega) only [impl_MakeNumber.f, xansi_CursorDown.f, if_pos, if_neg, if_true, Option.bind_some]
theorem n1 (u : Nat) (hl : 1 ≤ (u : Int)) (hu : u ≤ 100000) : laws_FnNumberRead.f 20 1 (u : Int) = some true :=
  one 1 (by decide) (by decide) (by decide) [] 0 [] 66 (⟨#[27, 91]⟩ : ByteArray) (⟨#[66]⟩ : ByteArray) 1 (by decide) rfl (fun K u hu => m1 K u hu) (by decide) (by decide) (by decide) (by decide) rfl rfl (by decide +kernel) (by decide +kernel) (by decide) (by decide) u hl hu

theorem m2 (K u : Nat) (hu : u ≤ 100000) : impl_MakeNumber.f K 2 (u : Int) = some (sandN (⟨#[27, 91]⟩ : ByteArray) (⟨#[67]⟩ : ByteArray) 1 u) := by
  have hs := dgn_size u (by omega)
  unfold sandN
  by_cases h : (u : Int) > 1
  · simp (discharger := omega) only [impl_MakeNumber.f, xansi_CursorForward.f, if_pos, if_neg, if_true, itoa_n u (by omega), Option.bind_some]
  · simp (discharger := omega) only [impl_MakeNumber.f, xansi_CursorForward.f, if_pos, if_neg, if_true, Option.bind_some]
theorem n2 (u : Nat) (hl : 1 ≤ (u : Int)) (hu : u ≤ 100000) : laws_FnNumberRead.f 20 2 (u : Int) = some true :=
  one 2 (by decide) (by decide) (by decide) [] 0 [] 67 (⟨#[27, 91]⟩ : ByteArray) (⟨#[67]⟩ : ByteArray) 1 (by decide) rfl (fun K u hu => m2 K u hu) (by decide) (by decide) (by decide) (by decide) rfl rfl (by decide +kernel) (by decide +kernel) (by decide) (by decide) u hl hu

theorem m3 (K u : Nat) (hu : u ≤ 100000) : impl_MakeNumber.f K 3 (u : Int) = some (sandN (⟨#[27, 91]⟩ : ByteArray) (⟨#[68]⟩ : ByteArray) 1 u) := by
  have hs := dgn_size u (by omega)
  unfold sandN
  by_cases h : (u : Int) > 1
  · simp (discharger := omega) only [impl_MakeNumber.f, xansi_CursorBackward.f, if_pos, if_neg, if_true, itoa_n u (by omega), Option.bind_some]
  · simp (discharger := omega) only [impl_MakeNumber.f, xansi_CursorBackward.f, if_pos, if_neg, if_true, Option.bind_some]
theorem n3 (u : Nat) (hl : 1 ≤ (u : Int)) (hu : u ≤ 100000) : laws_FnNumberRead.f 20 3 (u : Int) = some true :=
  one 3 (by decide) (by decide) (by decide) [] 0 [] 68 (⟨#[27, 91]⟩ : ByteArray) (⟨#[68]⟩ : ByteArray) 1 (by decide) rfl (fun K u hu => m3 K u hu) (by decide) (by decide) (by decide) (by decide) rfl rfl (by decide +kernel) (by decide +kernel) (by decide) (by decide) u hl hu

theorem m4 (K u : Nat) (hu : u ≤ 100000) : impl_MakeNumber.f K 4 (u : Int) = some (sandN (⟨#[27, 91]⟩ : ByteArray) (⟨#[69]⟩ : ByteArray) 1 u) := by
  have hs := dgn_size u (by omega)
  unfold sandN
  by_cases h : (u : Int) > 1
  · simp (discharger := omega) only [impl_MakeNumber.f, xansi_CursorNextLine.f, if_pos, if_neg, if_true, itoa_n u (by omega), Option.bind_some]
  · simp (discharger := omega) only [impl_MakeNumber.f, xansi_CursorNextLine.f, if_pos, if_neg, if_true, Option.bind_some]
theorem n4 (u : Nat) (hl : 1 ≤ (u : Int)) (hu : u ≤ 100000) : laws_FnNumberRead.f 20 4 (u : Int) = some true :=
  one 4 (by decide) (by decide) (by decide) [] 0 [] 69 (⟨#[27, 91]⟩ : ByteArray) (⟨#[69]⟩ : ByteArray) 1 (by decide) rfl (fun K u hu => m4 K u hu) (by decide) (by decide) (by decide) (by decide) rfl rfl (by decide +kernel) (by decide +kernel) (by decide) (by decide) u hl hu

theorem m5 (K u : Nat) (hu : u ≤ 100000) : impl_MakeNumber.f K 5 (u : Int) = some (sandN (⟨#[27, 91]⟩ : ByteArray) (⟨#[70]⟩ : ByteArray) 1 u) := by
  have hs := dgn_size u (by omega)
  unfold sandN
  by_cases h : (u : Int) > 1
  · simp (discharger := omega) only [impl_MakeNumber.f, xansi_CursorPreviousLine.f, if_pos, if_neg, if_true, itoa_n u (by omega), Option.bind_some]
  · simp (discharger := omega) only [impl_MakeNumber.f, xansi_CursorPreviousLine.f, if_pos, if_neg, if_true, Option.bind_some]
theorem n5 (u : Nat) (hl : 1 ≤ (u : Int)) (hu : u ≤ 100000) : laws_FnNumberRead.f 20 5 (u : Int) = some true :=
  one 5 (by decide) (by decide) (by decide) [] 0 [] 70 (⟨#[27, 91]⟩ : ByteArray) (⟨#[70]⟩ : ByteArray) 1 (by decide) rfl (fun K u hu => m5 K u hu) (by decide) (by decide) (by decide) (by decide) rfl rfl (by decide +kernel) (by decide +kernel) (by decide) (by decide) u hl hu

theorem m6 (K u : Nat) (hu : u ≤ 100000) : impl_MakeNumber.f K 6 (u : Int) = some (sandN (⟨#[27, 91]⟩ : ByteArray) (⟨#[71]⟩ : ByteArray) 0 u) := by
  have hs := dgn_size u (by omega)
  unfold sandN
  by_cases h : (u : Int) > 0
  · simp (discharger := omega) only [impl_MakeNumber.f, xansi_CursorHorizontalAbsolute.f, if_pos, if_neg, if_true, itoa_n u (by omega), Option.bind_some]
  · simp (discharger := omega) only [impl_MakeNumber.f, xansi_CursorHorizontalAbsolute.f, if_pos, if_neg, if_true, Option.bind_some]
theorem n6 (u : Nat) (hl : 0 ≤ (u : Int)) (hu : u ≤ 100000) : laws_FnNumberRead.f 20 6 (u : Int) = some true :=
  one 6 (by decide) (by decide) (by decide) [] 0 [] 71 (⟨#[27, 91]⟩ : ByteArray) (⟨#[71]⟩ : ByteArray) 0 (by decide) rfl (fun K u hu => m6 K u hu) (by decide) (by decide) (by decide) (by decide) rfl rfl (by decide +kernel) (by decide +kernel) (by decide) (by decide) u hl hu

theorem m7 (K u : Nat) (hu : u ≤ 100000) : impl_MakeNumber.f K 7 (u : Int) = some (sandN (⟨#[27, 91]⟩ : ByteArray) (⟨#[73]⟩ : ByteArray) 1 u) := by
  have hs := dgn_size u (by omega)
  unfold sandN
  by_cases h : (u : Int) > 1
  · simp (discharger := omega) only [impl_MakeNumber.f, xansi_CursorHorizontalForwardTab.f, if_pos, if_neg, if_true, itoa_n u (by omega), Option.bind_some]
  · simp (discharger := omega) only [impl_MakeNumber.f, xansi_CursorHorizontalForwardTab.f, if_pos, if_neg, if_true, Option.bind_some]
theorem n7 (u : Nat) (hl : 1 ≤ (u : Int)) (hu : u ≤ 100000) : laws_FnNumberRead.f 20 7 (u : Int) = some true :=
  one 7 (by decide) (by decide) (by decide) [] 0 [] 73 (⟨#[27, 91]⟩ : ByteArray) (⟨#[73]⟩ : ByteArray) 1 (by decide) rfl (fun K u hu => m7 K u hu) (by decide) (by decide) (by decide) (by decide) rfl rfl (by decide +kernel) (by decide +kernel) (by decide) (by decide) u hl hu

theorem m8 (K u : Nat) (hu : u ≤ 100000) : impl_MakeNumber.f K 8 (u : Int) = some (sandN (⟨#[27, 91]⟩ : ByteArray) (⟨#[90]⟩ : ByteArray) 1 u) := by
  have hs := dgn_size u (by omega)
  unfold sandN
  by_cases h : (u : Int) > 1
  · simp (discharger := omega) only [impl_MakeNumber.f, xansi_CursorBackwardTab.f, if_pos, if_neg, if_true, itoa_n u (by omega), Option.bind_some]
  · simp (discharger := omega) only [impl_MakeNumber.f, xansi_CursorBackwardTab.f, if_pos, if_neg, if_true, Option.bind_some]
theorem n8 (u : Nat) (hl : 1 ≤ (u : Int)) (hu : u ≤ 100000) : laws_FnNumberRead.f 20 8 (u : Int) = some true :=
  one 8 (by decide) (by decide) (by decide) [] 0 [] 90 (⟨#[27, 91]⟩ : ByteArray) (⟨#[90]⟩ : ByteArray) 1 (by decide) rfl (fun K u hu => m8 K u hu) (by decide) (by decide) (by decide) (by decide) rfl rfl (by decide +kernel) (by decide +kernel) (by decide) (by decide) u hl hu

theorem m9 (K u : Nat) (hu : u ≤ 100000) : impl_MakeNumber.f K 9 (u : Int) = some (sandN (⟨#[27, 91]⟩ : ByteArray) (⟨#[88]⟩ : ByteArray) 1 u) := by
  have hs := dgn_size u (by omega)
  unfold sandN
  by_cases h : (u : Int) > 1
  · simp (discharger := omega) only [impl_MakeNumber.f, xansi_EraseCharacter.f, if_pos, if_neg, if_true, itoa_n u (by omega), Option.bind_some]
  · simp (discharger := omega) only [impl_MakeNumber.f, xansi_EraseCharacter.f, if_pos, if_neg, if_true, Option.bind_some]
theorem n9 (u : Nat) (hl : 1 ≤ (u : Int)) (hu : u ≤ 100000) : laws_FnNumberRead.f 20 9 (u : Int) = some true :=
  one 9 (by decide) (by decide) (by decide) [] 0 [] 88 (⟨#[27, 91]⟩ : ByteArray) (⟨#[88]⟩ : ByteArray) 1 (by decide) rfl (fun K u hu => m9 K u hu) (by decide) (by decide) (by decide) (by decide) rfl rfl (by decide +kernel) (by decide +kernel) (by decide) (by decide) u hl hu

theorem m10 (K u : Nat) (hu : u ≤ 100000) : impl_MakeNumber.f K 10 (u : Int) = some (sandN (⟨#[27, 91]⟩ : ByteArray) (⟨#[74]⟩ : ByteArray) 0 u) := by
  have hs := dgn_size u (by omega)
  unfold sandN
  by_cases h : (u : Int) > 0
  · simp (discharger := omega) only [impl_MakeNumber.f, xansi_EraseDisplay.f, if_pos, if_neg, if_true, itoa_n u (by omega), Option.bind_some]
  · simp (discharger := omega) only [impl_MakeNumber.f, xansi_EraseDisplay.f, if_pos, if_neg, if_true, Option.bind_some]
theorem n10 (u : Nat) (hl : 0 ≤ (u : Int)) (hu : u ≤ 100000) : laws_FnNumberRead.f 20 10 (u : Int) = some true :=
  one 10 (by decide) (by decide) (by decide) [] 0 [] 74 (⟨#[27, 91]⟩ : ByteArray) (⟨#[74]⟩ : ByteArray) 0 (by decide) rfl (fun K u hu => m10 K u hu) (by decide) (by decide) (by decide) (by decide) rfl rfl (by decide +kernel) (by decide +kernel) (by decide) (by decide) u hl hu

theorem m11 (K u : Nat) (hu : u ≤ 100000) : impl_MakeNumber.f K 11 (u : Int) = some (sandN (⟨#[27, 91]⟩ : ByteArray) (⟨#[75]⟩ : ByteArray) 0 u) := by
  have hs := dgn_size u (by omega)
  unfold sandN
  by_cases h : (u : Int) > 0
  · simp (discharger := omega) only [impl_MakeNumber.f, xansi_EraseLine.f, if_pos, if_neg, if_true, itoa_n u (by omega), Option.bind_some]
  · simp (discharger := omega) only [impl_MakeNumber.f, xansi_EraseLine.f, if_pos, if_neg, if_true, Option.bind_some]
theorem n11 (u : Nat) (hl : 0 ≤ (u : Int)) (hu : u ≤ 100000) : laws_FnNumberRead.f 20 11 (u : Int) = some true :=
  one 11 (by decide) (by decide) (by decide) [] 0 [] 75 (⟨#[27, 91]⟩ : ByteArray) (⟨#[75]⟩ : ByteArray) 0 (by decide) rfl (fun K u hu => m11 K u hu) (by decide) (by decide) (by decide) (by decide) rfl rfl (by decide +kernel) (by decide +kernel) (by decide) (by decide) u hl hu

theorem m12 (K u : Nat) (hu : u ≤ 100000) : impl_MakeNumber.f K 12 (u : Int) = some (sandN (⟨#[27, 91]⟩ : ByteArray) (⟨#[83]⟩ : ByteArray) 1 u) := by
  have hs := dgn_size u (by omega)
  unfold sandN
  by_cases h : (u : Int) > 1
  · simp (discharger := omega) only [impl_MakeNumber.f, xansi_ScrollUp.f, if_pos, if_neg, if_true, itoa_n u (by omega), Option.bind_some]
  · simp (discharger := omega) only [impl_MakeNumber.f, xansi_ScrollUp.f, if_pos, if_neg, if_true, Option.bind_some]
theorem n12 (u : Nat) (hl : 1 ≤ (u : Int)) (hu : u ≤ 100000) : laws_FnNumberRead.f 20 12 (u : Int) = some true :=
  one 12 (by decide) (by decide) (by decide) [] 0 [] 83 (⟨#[27, 91]⟩ : ByteArray) (⟨#[83]⟩ : ByteArray) 1 (by decide) rfl (fun K u hu => m12 K u hu) (by decide) (by decide) (by decide) (by decide) rfl rfl (by decide +kernel) (by decide +kernel) (by decide) (by decide) u hl hu

theorem m13 (K u : Nat) (hu : u ≤ 100000) : impl_MakeNumber.f K 13 (u : Int) = some (sandN (⟨#[27, 91]⟩ : ByteArray) (⟨#[84]⟩ : ByteArray) 1 u) := by
  have hs := dgn_size u (by omega)
  unfold sandN
  by_cases h : (u : Int) > 1
  · simp (discharger := omega) only [impl_MakeNumber.f, xansi_ScrollDown.f, if_pos, if_neg, if_true, itoa_n u (by omega), Option.bind_some]
  · simp (discharger := omega) only [impl_MakeNumber.f, xansi_ScrollDown.f, if_pos, if_neg, if_true, Option.bind_some]
theorem n13 (u : Nat) (hl : 1 ≤ (u : Int)) (hu : u ≤ 100000) : laws_FnNumberRead.f 20 13 (u : Int) = some true :=
  one 13 (by decide) (by decide) (by decide) [] 0 [] 84 (⟨#[27, 91]⟩ : ByteArray) (⟨#[84]⟩ : ByteArray) 1 (by decide) rfl (fun K u hu => m13 K u hu) (by decide) (by decide) (by decide) (by decide) rfl rfl (by decide +kernel) (by decide +kernel) (by decide) (by decide) u hl hu

theorem m14 (K u : Nat) (hu : u ≤ 100000) : impl_MakeNumber.f K 14 (u : Int) = some (sandN (⟨#[27, 91]⟩ : ByteArray) (⟨#[76]⟩ : ByteArray) 1 u) := by
  have hs := dgn_size u (by omega)
  unfold sandN
  by_cases h : (u : Int) > 1
  · simp (discharger := omega) only [impl_MakeNumber.f, xansi_InsertLine.f, if_pos, if_neg, if_true, itoa_n u (by omega), Option.bind_some]
  · simp (discharger := omega) only [impl_MakeNumber.f, xansi_InsertLine.f, if_pos, if_neg, if_true, Option.bind_some]
theorem n14 (u : Nat) (hl : 1 ≤ (u : Int)) (hu : u ≤ 100000) : laws_FnNumberRead.f 20 14 (u : Int) = some true :=
  one 14 (by decide) (by decide) (by decide) [] 0 [] 76 (⟨#[27, 91]⟩ : ByteArray) (⟨#[76]⟩ : ByteArray) 1 (by decide) rfl (fun K u hu => m14 K u hu) (by decide) (by decide) (by decide) (by decide) rfl rfl (by decide +kernel) (by decide +kernel) (by decide) (by decide) u hl hu

theorem m15 (K u : Nat) (hu : u ≤ 100000) : impl_MakeNumber.f K 15 (u : Int) = some (sandN (⟨#[27, 91]⟩ : ByteArray) (⟨#[77]⟩ : ByteArray) 1 u) := by
  have hs := dgn_size u (by omega)
  unfold sandN
  by_cases h : (u : Int) > 1
  · simp (discharger := omega) only [impl_MakeNumber.f, xansi_DeleteLine.f, if_pos, if_neg, if_true, itoa_n u (by omega), Option.bind_some]
  · simp (discharger := omega) only [impl_MakeNumber.f, xansi_DeleteLine.f, if_pos, if_neg, if_true, Option.bind_some]
theorem n15 (u : Nat) (hl : 1 ≤ (u : Int)) (hu : u ≤ 100000) : laws_FnNumberRead.f 20 15 (u : Int) = some true :=
  one 15 (by decide) (by decide) (by decide) [] 0 [] 77 (⟨#[27, 91]⟩ : ByteArray) (⟨#[77]⟩ : ByteArray) 1 (by decide) rfl (fun K u hu => m15 K u hu) (by decide) (by decide) (by decide) (by decide) rfl rfl (by decide +kernel) (by decide +kernel) (by decide) (by decide) u hl hu

theorem m16 (K u : Nat) (hu : u ≤ 100000) : impl_MakeNumber.f K 16 (u : Int) = some (sandN (⟨#[27, 91]⟩ : ByteArray) (⟨#[64]⟩ : ByteArray) 1 u) := by
  have hs := dgn_size u (by omega)
  unfold sandN
  by_cases h : (u : Int) > 1
  · simp (discharger := omega) only [impl_MakeNumber.f, xansi_InsertCharacter.f, if_pos, if_neg, if_true, itoa_n u (by omega), Option.bind_some]
  · simp (discharger := omega) only [impl_MakeNumber.f, xansi_InsertCharacter.f, if_pos, if_neg, if_true, Option.bind_some]
theorem n16 (u : Nat) (hl : 1 ≤ (u : Int)) (hu : u ≤ 100000) : laws_FnNumberRead.f 20 16 (u : Int) = some true :=
  one 16 (by decide) (by decide) (by decide) [] 0 [] 64 (⟨#[27, 91]⟩ : ByteArray) (⟨#[64]⟩ : ByteArray) 1 (by decide) rfl (fun K u hu => m16 K u hu) (by decide) (by decide) (by decide) (by decide) rfl rfl (by decide +kernel) (by decide +kernel) (by decide) (by decide) u hl hu

theorem m17 (K u : Nat) (hu : u ≤ 100000) : impl_MakeNumber.f K 17 (u : Int) = some (sandN (⟨#[27, 91]⟩ : ByteArray) (⟨#[80]⟩ : ByteArray) 1 u) := by
  have hs := dgn_size u (by omega)
  unfold sandN
  by_cases h : (u : Int) > 1
  · simp (discharger := omega) only [impl_MakeNumber.f, xansi_DeleteCharacter.f, if_pos, if_neg, if_true, itoa_n u (by omega), Option.bind_some]
  · simp (discharger := omega) only [impl_MakeNumber.f, xansi_DeleteCharacter.f, if_pos, if_neg, if_true, Option.bind_some]
theorem n17 (u : Nat) (hl : 1 ≤ (u : Int)) (hu : u ≤ 100000) : laws_FnNumberRead.f 20 17 (u : Int) = some true :=
  one 17 (by decide) (by decide) (by decide) [] 0 [] 80 (⟨#[27, 91]⟩ : ByteArray) (⟨#[80]⟩ : ByteArray) 1 (by decide) rfl (fun K u hu => m17 K u hu) (by decide) (by decide) (by decide) (by decide) rfl rfl (by decide +kernel) (by decide +kernel) (by decide) (by decide) u hl hu

theorem m18 (K u : Nat) (hu : u ≤ 100000) : impl_MakeNumber.f K 18 (u : Int) = some (sandN (⟨#[27, 91]⟩ : ByteArray) (⟨#[100]⟩ : ByteArray) 0 u) := by
  have hs := dgn_size u (by omega)
  unfold sandN
  by_cases h : (u : Int) > 0
  · simp (discharger := omega) only [impl_MakeNumber.f, xansi_VerticalPositionAbsolute.f, if_pos, if_neg, if_true, itoa_n u (by omega), Option.bind_some]
  · simp (discharger := omega) only [impl_MakeNumber.f, xansi_VerticalPositionAbsolute.f, if_pos, if_neg, if_true, Option.bind_some]
theorem n18 (u : Nat) (hl : 0 ≤ (u : Int)) (hu : u ≤ 100000) : laws_FnNumberRead.f 20 18 (u : Int) = some true :=
  one 18 (by decide) (by decide) (by decide) [] 0 [] 100 (⟨#[27, 91]⟩ : ByteArray) (⟨#[100]⟩ : ByteArray) 0 (by decide) rfl (fun K u hu => m18 K u hu) (by decide) (by decide) (by decide) (by decide) rfl rfl (by decide +kernel) (by decide +kernel) (by decide) (by decide) u hl hu

theorem m19 (K u : Nat) (hu : u ≤ 100000) : impl_MakeNumber.f K 19 (u : Int) = some (sandN (⟨#[27, 91]⟩ : ByteArray) (⟨#[101]⟩ : ByteArray) 1 u) := by
  have hs := dgn_size u (by omega)
  unfold sandN
  by_cases h : (u : Int) > 1
  · simp (discharger := omega) only [impl_MakeNumber.f, xansi_VerticalPositionRelative.f, if_pos, if_neg, if_true, itoa_n u (by omega), Option.bind_some]
  · simp (discharger := omega) only [impl_MakeNumber.f, xansi_VerticalPositionRelative.f, if_pos, if_neg, if_true, Option.bind_some]
theorem n19 (u : Nat) (hl : 1 ≤ (u : Int)) (hu : u ≤ 100000) : laws_FnNumberRead.f 20 19 (u : Int) = some true :=
  one 19 (by decide) (by decide) (by decide) [] 0 [] 101 (⟨#[27, 91]⟩ : ByteArray) (⟨#[101]⟩ : ByteArray) 1 (by decide) rfl (fun K u hu => m19 K u hu) (by decide) (by decide) (by decide) (by decide) rfl rfl (by decide +kernel) (by decide +kernel) (by decide) (by decide) u hl hu

theorem m20 (K u : Nat) (hu : u ≤ 100000) : impl_MakeNumber.f K 20 (u : Int) = some (sandN (⟨#[27, 91]⟩ : ByteArray) (⟨#[96]⟩ : ByteArray) 0 u) := by
  have hs := dgn_size u (by omega)
  unfold sandN
  by_cases h : (u : Int) > 0
  · simp (discharger := omega) only [impl_MakeNumber.f, xansi_HorizontalPositionAbsolute.f, if_pos, if_neg, if_true, itoa_n u (by omega), Option.bind_some]
  · simp (discharger := omega) only [impl_MakeNumber.f, xansi_HorizontalPositionAbsolute.f, if_pos, if_neg, if_true, Option.bind_some]
theorem n20 (u : Nat) (hl : 0 ≤ (u : Int)) (hu : u ≤ 100000) : laws_FnNumberRead.f 20 20 (u : Int) = some true :=
  one 20 (by decide) (by decide) (by decide) [] 0 [] 96 (⟨#[27, 91]⟩ : ByteArray) (⟨#[96]⟩ : ByteArray) 0 (by decide) rfl (fun K u hu => m20 K u hu) (by decide) (by decide) (by decide) (by decide) rfl rfl (by decide +kernel) (by decide +kernel) (by decide) (by decide) u hl hu

theorem m21 (K u : Nat) (hu : u ≤ 100000) : impl_MakeNumber.f K 21 (u : Int) = some (sandN (⟨#[27, 91]⟩ : ByteArray) (⟨#[97]⟩ : ByteArray) 0 u) := by
  have hs := dgn_size u (by omega)
  unfold sandN
  by_cases h : (u : Int) > 0
  · simp (discharger := omega) only [impl_MakeNumber.f, xansi_HorizontalPositionRelative.f, if_pos, if_neg, if_true, itoa_n u (by omega), Option.bind_some]
  · simp (discharger := omega) only [impl_MakeNumber.f, xansi_HorizontalPositionRelative.f, if_pos, if_neg, if_true, Option.bind_some]
theorem n21 (u : Nat) (hl : 0 ≤ (u : Int)) (hu : u ≤ 100000) : laws_FnNumberRead.f 20 21 (u : Int) = some true :=
  one 21 (by decide) (by decide) (by decide) [] 0 [] 97 (⟨#[27, 91]⟩ : ByteArray) (⟨#[97]⟩ : ByteArray) 0 (by decide) rfl (fun K u hu => m21 K u hu) (by decide) (by decide) (by decide) (by decide) rfl rfl (by decide +kernel) (by decide +kernel) (by decide) (by decide) u hl hu

theorem m22 (K u : Nat) (hu : u ≤ 100000) : impl_MakeNumber.f K 22 (u : Int) = some (sandN (⟨#[27, 91]⟩ : ByteArray) (⟨#[98]⟩ : ByteArray) 1 u) := by
  have hs := dgn_size u (by omega)
  unfold sandN
  by_cases h : (u : Int) > 1
  · simp (discharger := omega) only [impl_MakeNumber.f, xansi_RepeatPreviousCharacter.f, if_pos, if_neg, if_true, itoa_n u (by omega), Option.bind_some]
  · simp (discharger := omega) only [impl_MakeNumber.f, xansi_RepeatPreviousCharacter.f, if_pos, if_neg, if_true, Option.bind_some]
theorem n22 (u : Nat) (hl : 1 ≤ (u : Int)) (hu : u ≤ 100000) : laws_FnNumberRead.f 20 22 (u : Int) = some true :=
  one 22 (by decide) (by decide) (by decide) [] 0 [] 98 (⟨#[27, 91]⟩ : ByteArray) (⟨#[98]⟩ : ByteArray) 1 (by decide) rfl (fun K u hu => m22 K u hu) (by decide) (by decide) (by decide) (by decide) rfl rfl (by decide +kernel) (by decide +kernel) (by decide) (by decide) u hl hu

theorem m24 (K u : Nat) (hu : u ≤ 100000) : impl_MakeNumber.f K 24 (u : Int) = some (sandN (⟨#[27, 91]⟩ : ByteArray) (⟨#[103]⟩ : ByteArray) 0 u) := by
  have hs := dgn_size u (by omega)
  unfold sandN
  by_cases h : (u : Int) > 0
  · simp (discharger := omega) only [impl_MakeNumber.f, xansi_TabClear.f, if_pos, if_neg, if_true, itoa_n u (by omega), Option.bind_some]
  · simp (discharger := omega) only [impl_MakeNumber.f, xansi_TabClear.f, if_pos, if_neg, if_true, Option.bind_some]
theorem n24 (u : Nat) (hl : 0 ≤ (u : Int)) (hu : u ≤ 100000) : laws_FnNumberRead.f 20 24 (u : Int) = some true :=
  one 24 (by decide) (by decide) (by decide) [] 0 [] 103 (⟨#[27, 91]⟩ : ByteArray) (⟨#[103]⟩ : ByteArray) 0 (by decide) rfl (fun K u hu => m24 K u hu) (by decide) (by decide) (by decide) (by decide) rfl rfl (by decide +kernel) (by decide +kernel) (by decide) (by decide) u hl hu

theorem m25 (K u : Nat) (hu : u ≤ 100000) : impl_MakeNumber.f K 25 (u : Int) = some (sandN (⟨#[27, 91]⟩ : ByteArray) (⟨#[36, 119]⟩ : ByteArray) 0 u) := by
  have hs := dgn_size u (by omega)
  unfold sandN
  by_cases h : (u : Int) > 0
  · simp (discharger := omega) only [impl_MakeNumber.f, xansi_RequestPresentationStateReport.f, if_pos, if_neg, if_true, itoa_n u (by omega), Option.bind_some]
  · simp (discharger := omega) only [impl_MakeNumber.f, xansi_RequestPresentationStateReport.f, if_pos, if_neg, if_true, Option.bind_some]
theorem n25 (u : Nat) (hl : 0 ≤ (u : Int)) (hu : u ≤ 100000) : laws_FnNumberRead.f 20 25 (u : Int) = some true :=
  one 25 (by decide) (by decide) (by decide) [] 0 [36] 119 (⟨#[27, 91]⟩ : ByteArray) (⟨#[36, 119]⟩ : ByteArray) 0 (by decide) rfl (fun K u hu => m25 K u hu) (by decide) (by decide) (by decide) (by decide) rfl rfl (by decide +kernel) (by decide +kernel) (by decide) (by decide) u hl hu

theorem m26 (K u : Nat) (hu : u ≤ 100000) : impl_MakeNumber.f K 26 (u : Int) = some (sandN (⟨#[27, 91, 62]⟩ : ByteArray) (⟨#[117]⟩ : ByteArray) 0 u) := by
  have hs := dgn_size u (by omega)
  unfold sandN
  by_cases h : (u : Int) > 0
  · simp (discharger := omega) only [impl_MakeNumber.f, xansi_PushKittyKeyboard.f, if_pos, if_neg, if_true, itoa_n u (by omega), Option.bind_some]
  · simp (discharger := omega) only [impl_MakeNumber.f, xansi_PushKittyKeyboard.f, if_pos, if_neg, if_true, Option.bind_some]
theorem n26 (u : Nat) (hl : 0 ≤ (u : Int)) (hu : u ≤ 100000) : laws_FnNumberRead.f 20 26 (u : Int) = some true :=
  one 26 (by decide) (by decide) (by decide) [62] 62 [] 117 (⟨#[27, 91, 62]⟩ : ByteArray) (⟨#[117]⟩ : ByteArray) 0 (by decide) rfl (fun K u hu => m26 K u hu) (by decide) (by decide) (by decide) (by decide) rfl rfl (by decide +kernel) (by decide +kernel) (by decide) (by decide) u hl hu

theorem m27 (K u : Nat) (hu : u ≤ 100000) : impl_MakeNumber.f K 27 (u : Int) = some (sandN (⟨#[27, 91, 60]⟩ : ByteArray) (⟨#[117]⟩ : ByteArray) 0 u) := by
  have hs := dgn_size u (by omega)
  unfold sandN
  by_cases h : (u : Int) > 0
  · simp (discharger := omega) only [impl_MakeNumber.f, xansi_PopKittyKeyboard.f, if_pos, if_neg, if_true, itoa_n u (by omega), Option.bind_some]
  · simp (discharger := omega) only [impl_MakeNumber.f, xansi_PopKittyKeyboard.f, if_pos, if_neg, if_true, Option.bind_some]
theorem n27 (u : Nat) (hl : 0 ≤ (u : Int)) (hu : u ≤ 100000) : laws_FnNumberRead.f 20 27 (u : Int) = some true :=
  one 27 (by decide) (by decide) (by decide) [60] 60 [] 117 (⟨#[27, 91, 60]⟩ : ByteArray) (⟨#[117]⟩ : ByteArray) 0 (by decide) rfl (fun K u hu => m27 K u hu) (by decide) (by decide) (by decide) (by decide) rfl rfl (by decide +kernel) (by decide +kernel) (by decide) (by decide) u hl hu

theorem m28 (K u : Nat) (hu : u ≤ 100000) : impl_MakeNumber.f K 28 (u : Int) = some (sandN (⟨#[27, 91, 63]⟩ : ByteArray) (⟨#[109]⟩ : ByteArray) 0 u) := by
  have hs := dgn_size u (by omega)
  unfold sandN
  by_cases h : (u : Int) > 0
  · simp (discharger := omega) only [impl_MakeNumber.f, xansi_QueryKeyModifierOptions.f, if_pos, if_neg, if_true, itoa_n u (by omega), Option.bind_some]
  · simp (discharger := omega) only [impl_MakeNumber.f, xansi_QueryKeyModifierOptions.f, if_pos, if_neg, if_true, Option.bind_some]
theorem n28 (u : Nat) (hl : 0 ≤ (u : Int)) (hu : u ≤ 100000) : laws_FnNumberRead.f 20 28 (u : Int) = some true :=
  one 28 (by decide) (by decide) (by decide) [63] 63 [] 109 (⟨#[27, 91, 63]⟩ : ByteArray) (⟨#[109]⟩ : ByteArray) 0 (by decide) rfl (fun K u hu => m28 K u hu) (by decide) (by decide) (by decide) (by decide) rfl rfl (by decide +kernel) (by decide +kernel) (by decide) (by decide) u hl hu

theorem all (c : Int) (hc0 : 0 ≤ c) (hc1 : c < 29) (h23 : c ≠ 23) (u : Nat) (hl : (rd_T28 L c).f2 ≤ (u : Int)) (hu : u ≤ 100000) : laws_FnNumberRead.f 20 c (u : Int) = some true := by
  have : c = 0 ∨ c = 1 ∨ c = 2 ∨ c = 3 ∨ c = 4 ∨ c = 5 ∨ c = 6 ∨ c = 7 ∨ c = 8 ∨ c = 9 ∨ c = 10 ∨ c = 11 ∨ c = 12 ∨ c = 13 ∨ c = 14 ∨ c = 15 ∨ c = 16 ∨ c = 17 ∨ c = 18 ∨ c = 19 ∨ c = 20 ∨ c = 21 ∨ c = 22 ∨ c = 24 ∨ c = 25 ∨ c = 26 ∨ c = 27 ∨ c = 28 := by omega
  rcases this with rfl | rfl | rfl | rfl | rfl | rfl | rfl | rfl | rfl | rfl | rfl | rfl | rfl | rfl | rfl | rfl | rfl | rfl | rfl | rfl | rfl | rfl | rfl | rfl | rfl | rfl | rfl | rfl
  · exact n0 u hl hu
  · exact n1 u hl hu
  · exact n2 u hl hu
  · exact n3 u hl hu
  · exact n4 u hl hu
  · exact n5 u hl hu
  · exact n6 u hl hu
  · exact n7 u hl hu
  · exact n8 u hl hu
  · exact n9 u hl hu
  · exact n10 u hl hu
  · exact n11 u hl hu
  · exact n12 u hl hu
  · exact n13 u hl hu
  · exact n14 u hl hu
  · exact n15 u hl hu
  · exact n16 u hl hu
  · exact n17 u hl hu
  · exact n18 u hl hu
  · exact n19 u hl hu
  · exact n20 u hl hu
  · exact n21 u hl hu
  · exact n22 u hl hu
  · exact n24 u hl hu
  · exact n25 u hl hu
  · exact n26 u hl hu
  · exact n27 u hl hu
  · exact n28 u hl hu

theorem FnNumberRead : laws_FnNumberRead.Pure := by
  intro c n hc hn
  have hlen := L_len
  have yes : ∀ k, laws_FnNumberRead.j0 (k + 1) c n L true = some true := fun k => by simp only [laws_FnNumberRead.j0, if_true, awake, Option.bind_some]
  refine ⟨20, ?_⟩
  by_cases c0 : c < 0
  · unfold laws_FnNumberRead.f; rw [L_is, Option.bind_some, if_pos c0]; exact yes 19
  by_cases c1 : c ≥ 29
  · unfold laws_FnNumberRead.f; rw [L_is, Option.bind_some, if_neg c0, if_pos (by omega)]; exact yes 19
  by_cases c2 : c = 23
  · unfold laws_FnNumberRead.f; rw [L_is, Option.bind_some, if_neg c0, if_neg (by omega), if_pos c2]; exact yes 19
  by_cases n0 : n < (rd_T28 L c).f2
  · unfold laws_FnNumberRead.f; rw [L_is, Option.bind_some, if_neg c0, if_neg (by omega), if_neg c2, if_pos (by omega), if_pos (by omega), if_pos n0]; exact yes 19
  by_cases n1 : n > 100000
  · unfold laws_FnNumberRead.f; rw [L_is, Option.bind_some, if_neg c0, if_neg (by omega), if_neg c2, if_pos (by omega), if_pos (by omega), if_neg n0, decide_eq_true n1]; exact yes 19
  have hleast : ∀ v : Nat, v < 29 → 0 ≤ (rd_T28 L (v : Int)).f2 := by decide
  obtain ⟨v, rfl⟩ := Int.eq_ofNat_of_zero_le (by omega : 0 ≤ c)
  have := hleast v (by omega)
  obtain ⟨u, rfl⟩ := Int.eq_ofNat_of_zero_le (by omega : 0 ≤ n)
  exact all v (by omega) (by omega) c2 u (by omega) (by omega)
end Go.Proofs.YtplmmblofhhikaaDoor.Pure
