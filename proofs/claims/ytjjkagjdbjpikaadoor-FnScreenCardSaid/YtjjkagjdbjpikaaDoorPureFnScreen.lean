/- It is proved that the law FnScreen answers true: what is passed through screen stands in pieces of so many bytes; for every text of at most 4000 bytes (others are let pass) and every limit, with no further condition. -/
import Derived.Test.YtjjkagjdbjpikaaDoorPSx3
import Derived.Test.YtjjkagjdbjpikaaDoorAwakeS
namespace Go.Proofs.YtjjkagjdbjpikaaDoor.Pure
set_option linter.unusedSimpArgs false
open Go Go.RowKit Go.Proofs.YtjjkagjdbjpikaaDoor.PS Go.Proofs.YtjjkagjdbjpikaaDoor.Or Go.Proofs.YtjjkagjdbjpikaaDoor.Aw Go.Proofs.YtjjkagjdbjpikaaDoorW.PrintWords Go.Proofs.YtjjkagjdbjpikaaDoorW.PrintLast

def mid : List UInt8 := [27, 92, 27, 80]
/-- What the reference adds from place i on, the bytes left being these. -/
def tl (L : Nat) : List UInt8 → Nat → List UInt8
  | [], _ => []
  | c :: t, i => (if 0 < i ∧ i % L = 0 then mid else []) ++ c :: tl L t (i + 1)
/-- The pieces of the bytes left. -/
def ch (L : Nat) : Nat → List UInt8 → List UInt8
  | 0, _ => []
  | f + 1, r => if r = [] then [] else if L < r.length then r.take L ++ (mid ++ ch L f (r.drop L)) else r

theorem tl_in (L : Nat) (_hL : 1 ≤ L) : ∀ (d : Nat) (r : List UInt8) (k j : Nat), k % L = 0 → j + d = L → 1 ≤ j → tl L r (k + j) = if r.length ≤ d then r else r.take d ++ tl L (r.drop d) (k + L) := by
  intro d
  induction d with
  | zero =>
    intro r k j hk hj _
    have e : k + j = k + L := by omega
    rw [e]
    cases r with
    | nil => simp [tl]
    | cons c t => simp
  | succ d ih =>
    intro r k j hk hj h1
    cases r with
    | nil => simp [tl]
    | cons c t =>
      have hm : (k + j) % L = j := by
        rw [Nat.add_mod, hk, Nat.zero_add, Nat.mod_mod, Nat.mod_eq_of_lt (by omega)]
      have hne : ¬ (0 < k + j ∧ (k + j) % L = 0) := by rw [hm]; omega
      conv => lhs; unfold tl
      rw [if_neg hne, show k + j + 1 = k + (j + 1) by omega, ih t k (j + 1) hk (by omega) (by omega)]
      by_cases hl : t.length ≤ d
      · rw [if_pos hl, if_pos (by simp; omega)]; rfl
      · rw [if_neg hl, if_neg (by simp; omega)]; simp

theorem tl_ch (L : Nat) (hL : 1 ≤ L) : ∀ (f : Nat) (c : UInt8) (t : List UInt8) (k : Nat), k % L = 0 → t.length < f → c :: tl L t (k + 1) = ch L f (c :: t) := by
  intro f
  induction f with
  | zero => intro c t k _ h; omega
  | succ f ih =>
    intro c t k hk hf
    rw [tl_in L hL (L - 1) t k 1 hk (by omega) (by omega)]
    by_cases hl : t.length ≤ L - 1
    · rw [if_pos hl]
      unfold ch
      rw [if_neg (List.cons_ne_nil _ _), if_neg (by simp; omega)]
    · rw [if_neg hl]
      conv => rhs; unfold ch
      rw [if_neg (List.cons_ne_nil _ _), if_pos (by simp; omega)]
      obtain ⟨L', rfl⟩ : ∃ L', L = L' + 1 := ⟨L - 1, by omega⟩
      simp only [Nat.add_sub_cancel, List.take_succ_cons, List.drop_succ_cons, List.cons_append, List.cons.injEq, true_and]
      congr 1
      simp only [Nat.add_sub_cancel] at hl
      cases hq : t.drop L' with
      | nil => have := congrArg List.length hq; simp at this; omega
      | cons c2 t2 =>
        have hlen : t2.length + 1 = t.length - L' := by have := congrArg List.length hq; simp at this; omega
        conv => lhs; unfold tl
        rw [if_pos ⟨by omega, by rw [Nat.add_mod_right]; exact hk⟩, ih c2 t2 (k + (L' + 1)) (by rw [Nat.add_mod_right]; exact hk) (by omega)]

theorem ex_list (s : ByteArray) (a b : Nat) : (s.extract a b).data.toList = (s.data.toList.drop a).take (b - a) := by
  simp [ByteArray.data_extract, List.extract_eq_take_drop]

theorem chunks_ch (s : ByteArray) (L : Nat) : ∀ (f k : Nat), (chunks s L f k).data.toList = ch L f (s.data.toList.drop k) := by
  intro f
  induction f with
  | zero => intro k; rfl
  | succ f ih =>
    intro k
    have hsz : s.data.toList.length = s.size := by simp
    by_cases h : k < s.size
    · by_cases h2 : k + L < s.size
      · rw [chunks_more s L f k h h2]
        unfold ch
        rw [if_neg (by intro e; have := congrArg List.length e; simp at this; omega), if_pos (by simp; omega)]
        simp only [ByteArray.data_append, Array.toList_append, ih, ex_list, List.drop_drop]
        rw [show k + L - k = L by omega]
        rfl
      · rw [chunks_last s L f k h h2]
        unfold ch
        rw [if_neg (by intro e; have := congrArg List.length e; simp at this; omega), if_neg (by simp; omega), ex_list]
        exact List.take_of_length_le (by simp)
    · rw [chunks_end s L (f + 1) k h]
      unfold ch
      rw [if_pos (List.drop_of_length_le (by omega))]
      rfl

/-- The reference's own loop. -/
theorem made (s : ByteArray) (hs : s.size ≤ 4000) (L : Nat) (hL : 1 ≤ L ∨ s.size = 0) (_hL2 : L ≤ 4000) (K : Nat) : ∀ (d i : Nat) (acc : ByteArray), i + d = s.size → acc.size + 5 * d ≤ 40000 →
    spec_MadeScreen.l0 (K + d + 1) s (L : Int) acc (i : Int) = some ((acc ++ ⟨(tl L (s.data.toList.drop i) i).toArray⟩) ++ ⟨#[27, 92]⟩) := by
  intro d
  induction d with
  | zero =>
    intro i acc hi hacc
    have e : s.data.toList.drop i = [] := List.drop_of_length_le (by simp; omega)
    rw [e]
    simp only [spec_MadeScreen.l0]
    have e2 : acc ++ (⟨([] : List UInt8).toArray⟩ : ByteArray) = acc := by apply ByteArray.ext; simp
    rw [if_neg (by omega), if_pos (by omega)]
    show some (acc ++ _) = some ((acc ++ (⟨(tl L [] i).toArray⟩ : ByteArray)) ++ _)
    unfold tl
    rw [e2]
  | succ d ih =>
    intro i acc hi hacc
    have hlt : i < s.data.toList.length := by simp; omega
    have e : s.data.toList.drop i = s.data.toList[i] :: s.data.toList.drop (i + 1) := List.drop_eq_getElem_cons hlt
    have e1 : wrap64 ((i : Int) + 1) = ((i + 1 : Nat) : Int) := by unfold wrap64; omega
    have e3 : s.extract (i : Int).toNat (((i + 1 : Nat) : Int)).toNat = ⟨#[s.data.toList[i]]⟩ := by
      apply ByteArray.ext
      apply Array.toList_inj.1
      rw [ex_list, Int.toNat_natCast, Int.toNat_natCast, e, show i + 1 - i = 1 by omega]
      rfl
    have e4 : (⟨#[s.data.toList[i]]⟩ : ByteArray).size = 1 := rfl
    obtain ⟨Q, hQ⟩ : ∃ Q, Q = K + d + 1 := ⟨_, rfl⟩
    rw [← hQ] at ih
    rw [show K + (d + 1) + 1 = Q + 1 by omega]
    simp only [spec_MadeScreen.l0]
    rw [if_pos (by omega), e1, e3, e4, e]
    have hmid : (⟨mid.toArray⟩ : ByteArray).size = 4 := rfl
    by_cases h0 : (i : Int) > 0
    · rw [if_pos h0, if_neg (by omega)]
      by_cases hm : Int.tmod (i : Int) (L : Int) = 0
      · have hm' : i % L = 0 := by have h := hm; rw [Int.tmod_eq_emod_of_nonneg (by omega)] at h; omega
        rw [if_pos hm, if_pos (by omega), if_pos (by omega), if_pos (by omega), if_pos (by omega), if_pos (by omega), ih (i + 1) _ (by omega) (by rw [ByteArray.size_append, ByteArray.size_append, e4]; show acc.size + 4 + 1 + 5 * d ≤ _; omega)]
        congr 1
        apply ByteArray.ext
        conv => rhs; unfold tl
        rw [if_pos ⟨by omega, hm'⟩]
        simp [ByteArray.data_append, mid]
      · have hm' : ¬ i % L = 0 := by intro h; apply hm; rw [Int.tmod_eq_emod_of_nonneg (by omega)]; omega
        rw [if_neg hm, if_pos (by omega), if_pos (by omega), if_pos (by omega), if_pos (by omega), ih (i + 1) _ (by omega) (by rw [ByteArray.size_append, e4]; omega)]
        congr 1
        apply ByteArray.ext
        conv => rhs; unfold tl
        rw [if_neg (by intro h; exact hm' h.2)]
        simp [ByteArray.data_append]
    · rw [if_neg h0, if_pos (by omega), if_pos (by omega), if_pos (by omega), if_pos (by omega), ih (i + 1) _ (by omega) (by rw [ByteArray.size_append, e4]; omega)]
      congr 1
      apply ByteArray.ext
      conv => rhs; unfold tl
      rw [if_neg (by intro h; omega)]
      simp [ByteArray.data_append]

/-- Both come to the same bytes. -/
theorem tl_same (l : List UInt8) (L M f : Nat) (hM : 1 ≤ M ∨ l = []) (hf : l.length ≤ f) (h : L = M ∨ (l.length ≤ L ∧ l.length ≤ M)) : tl M l 0 = ch L f l := by
  cases l with
  | nil => cases f <;> simp [tl, ch]
  | cons c t =>
    have hM1 : 1 ≤ M := by rcases hM with h | h; exact h; cases h
    have e := tl_ch M hM1 f c t 0 (Nat.zero_mod _) (by simp at hf; omega)
    conv => lhs; unfold tl
    rw [if_neg (by omega)]
    rcases h with rfl | ⟨h1, h2⟩
    · simpa using e
    · rw [List.nil_append, show (0 : Nat) + 1 = 0 + 1 from rfl, e]
      obtain ⟨f', rfl⟩ : ∃ f', f = f' + 1 := ⟨f - 1, by simp at hf; omega⟩
      have hx : ∀ Q, (c :: t).length ≤ Q → ch Q (f' + 1) (c :: t) = c :: t := by
        intro Q hQ
        unfold ch
        rw [if_neg (List.cons_ne_nil _ _), if_neg (by omega)]
      rw [hx M h2, hx L h1]

theorem short_true (k : Nat) (s : ByteArray) (h : s.size ≤ 4000) : laws_makeShort.f (k + 3) [s] = some true := by
  unfold laws_makeShort.f
  simp only [laws_makeShort.l0, List.length_singleton]
  have e : rdOf ByteArray.empty [s] 0 = s := rfl
  have e1 : wrap64 ((0 : Int) + 1) = 1 := by unfold wrap64; omega
  simp only [e, e1]
  rw [if_pos (by decide), if_pos (by decide), if_pos (by decide), if_neg (by omega), if_neg (by decide)]
  rfl
theorem short_false (k : Nat) (s : ByteArray) (h : ¬ s.size ≤ 4000) : laws_makeShort.f (k + 3) [s] = some false := by
  unfold laws_makeShort.f
  simp only [laws_makeShort.l0, List.length_singleton]
  have e : rdOf ByteArray.empty [s] 0 = s := rfl
  simp only [e]
  rw [if_pos (by decide), if_pos (by decide), if_pos (by decide), if_pos (by omega)]

theorem tl_len (L : Nat) : ∀ (l : List UInt8) (i : Nat), (tl L l i).length ≤ 5 * l.length := by
  intro l
  induction l with
  | nil => intro i; simp [tl]
  | cons c t ih =>
    intro i
    unfold tl
    have := ih (i + 1)
    have hm : (if 0 < i ∧ i % L = 0 then mid else []).length ≤ 4 := by split <;> simp [mid]
    simp only [List.length_append, List.length_cons]
    omega

theorem FnScreen : laws_FnScreen.Pure := by
  intro s lim hs hw
  obtain ⟨w0, w1⟩ := wf_i64 hw
  refine ⟨s.size + 10, ?_⟩
  unfold laws_FnScreen.f
  by_cases h0 : (s.size : Int) > 2147483647
  · rw [if_pos h0]
  rw [if_neg h0]
  by_cases h1 : s.size ≤ 4000
  · rw [show s.size + 10 = (s.size + 7) + 3 by omega, short_true _ s h1, awake]
    simp only [Option.bind_some, if_true]
    -- the limit that the reference uses
    obtain ⟨M, hM⟩ : ∃ M : Nat, M = if lim ≤ 0 ∨ lim > (s.size : Int) then s.size else lim.toNat := ⟨_, rfl⟩
    have hMb : M ≤ 4000 := by subst hM; split <;> omega
    have hM1 : 1 ≤ M ∨ s.size = 0 := by subst hM; split <;> omega
    have eL : s.data.toList.length = s.size := by simp
    have hsp : spec_MadeScreen.f (s.size + 7 + 3) s lim = some (((⟨#[27, 80]⟩ : ByteArray) ++ ⟨(tl M s.data.toList 0).toArray⟩) ++ ⟨#[27, 92]⟩) := by
      have hl := made s h1 M hM1 hMb 7 s.size 0 (⟨#[27, 80]⟩ : ByteArray) (by omega) (by show 2 + 5 * s.size ≤ _; omega)
      rw [List.drop_zero] at hl
      unfold spec_MadeScreen.f
      by_cases hz : lim ≤ 0
      · rw [if_pos hz]
        have : M = s.size := by rw [hM, if_pos (Or.inl hz)]
        simp only [spec_MadeScreen.j0, if_true, spec_MadeScreen.j1]
        rw [this] at hl ⊢
        rw [show s.size + 7 + 1 = 7 + s.size + 1 by omega]
        exact hl
      · rw [if_neg hz]
        by_cases hb : lim > (s.size : Int)
        · have : M = s.size := by rw [hM, if_pos (Or.inr hb)]
          have hd : decide (lim > (s.size : Int)) = true := decide_eq_true hb
          simp only [spec_MadeScreen.j0, hd, if_true, spec_MadeScreen.j1]
          rw [this] at hl ⊢
          rw [show s.size + 7 + 1 = 7 + s.size + 1 by omega]
          exact hl
        · have : (M : Int) = lim := by rw [hM, if_neg (by omega)]; omega
          have hd : decide (lim > (s.size : Int)) = false := decide_eq_false hb
          simp only [spec_MadeScreen.j0, hd, Bool.false_eq_true, if_false, spec_MadeScreen.j1]
          rw [this] at hl
          rw [show s.size + 7 + 1 = 7 + s.size + 1 by omega]
          exact hl
    have him : screenT s lim = ((⟨#[27, 80]⟩ : ByteArray) ++ ⟨(tl M s.data.toList 0).toArray⟩) ++ ⟨#[27, 92]⟩ := by
      unfold screenT
      apply ByteArray.ext
      apply Array.toList_inj.1
      simp only [ByteArray.data_append, Array.toList_append]
      rw [List.append_assoc]
      congr 2
      by_cases hz : 0 < lim
      · rw [if_pos hz, chunks_ch, List.drop_zero]
        refine (tl_same s.data.toList lim.toNat M s.size (by rcases hM1 with h | h; exact Or.inl h; exact Or.inr (List.length_eq_zero_iff.1 (by omega))) (by omega) ?_).symm
        by_cases hb : lim > (s.size : Int)
        · exact Or.inr ⟨by omega, by rw [hM, if_pos (Or.inr hb)]; omega⟩
        · exact Or.inl (by rw [hM, if_neg (by omega)])
      · rw [if_neg hz]
        have : M = s.size := by rw [hM, if_pos (Or.inl (by omega))]
        have ht := tl_same s.data.toList s.size M (s.size + 1) (by rcases hM1 with h | h; exact Or.inl h; exact Or.inr (List.length_eq_zero_iff.1 (by omega))) (by omega) (Or.inl this.symm)
        show _ = tl M s.data.toList 0
        rw [ht]
        unfold ch
        by_cases he : s.data.toList = []
        · rw [if_pos he, he]
        · rw [if_neg he, if_neg (by omega)]
    have hsz : (screenT s lim).size ≤ 140737488000000 := by
      rw [him, ByteArray.size_append, ByteArray.size_append]
      have := tl_len M s.data.toList 0
      have e1 : (⟨(tl M s.data.toList 0).toArray⟩ : ByteArray).size = (tl M s.data.toList 0).length := by simp [ByteArray.size]
      rw [e1]
      show 2 + _ + 2 ≤ _
      omega
    unfold impl_Screen.f xansi_ScreenPassthrough.f
    rw [if_pos ⟨by omega, w1, hsz⟩, hsp, him]
    simp
  · rw [show s.size + 10 = (s.size + 7) + 3 by omega, short_false _ s h1, awake]
    simp

end Go.Proofs.YtjjkagjdbjpikaaDoor.Pure
