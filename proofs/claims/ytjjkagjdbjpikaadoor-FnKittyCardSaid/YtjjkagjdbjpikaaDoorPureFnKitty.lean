/- It is proved that the law FnKitty answers true: a graphics command has its options with commas between them, and its payload; for every payload of at most 4000 bytes and at most 60 options of at most 4000 bytes (others are let pass), with no further condition. The law's walk over a list of texts stands at the end. -/
import Derived.Test.YtjjkagjdbjpikaaDoorPKx3
import Derived.Test.YtjjkagjdbjpikaaDoorAwakeK
import Derived.Test.YtjjkagjdbjpikaaDoorStrs
namespace Go.Proofs.YtjjkagjdbjpikaaDoor.Pure
open Go Go.RowKit Go.Proofs.YtjjkagjdbjpikaaDoor.PK Go.Proofs.YtjjkagjdbjpikaaDoor.PJ Go.Proofs.YtjjkagjdbjpikaaDoor.Or Go.Proofs.YtjjkagjdbjpikaaDoor.Aw Go.Proofs.YtjjkagjdbjpikaaDoorW.PrintWords Go.Proofs.YtjjkagjdbjpikaaDoorW.PrintLast Go.Proofs.YtjjkagjdbjpikaaDoorW.PrintMore

set_option linter.unusedSimpArgs false
set_option linter.unusedVariables false
set_option linter.unusedSectionVars false
theorem rdOf_at (l : List ByteArray) (i : Nat) (h : i < l.length) : rdOf ByteArray.empty l (i : Int) = l[i] := by unfold rdOf; simp [h]
theorem wi (i : Nat) (h : i ≤ 9000000000) : wrap64 ((i : Int) + 1) = ((i + 1 : Nat) : Int) := by unfold wrap64; omega
theorem w01 : wrap64 (0 + 1) = ((1 : Nat) : Int) := by decide +kernel
theorem z0 : (⟨#[]⟩ : ByteArray).size = 0 := rfl
theorem z1 (c : UInt8) : (⟨#[c]⟩ : ByteArray).size = 1 := rfl
theorem empty_app (s : ByteArray) : (⟨#[]⟩ : ByteArray) ++ s = s := ByteArray.empty_append

/-- Texts joined with a separator, after a first. -/
def jn (sep : ByteArray) : ByteArray → List ByteArray → ByteArray
  | acc, [] => acc
  | acc, x :: xs => jn sep ((acc ++ sep) ++ x) xs
def join (sep : ByteArray) : List ByteArray → ByteArray
  | [] => ⟨#[]⟩
  | x :: xs => jn sep x xs
theorem jn_pre (sep p : ByteArray) (xs : List ByteArray) : ∀ acc, jn sep (p ++ acc) xs = p ++ jn sep acc xs := by
  induction xs with
  | nil => intro acc; rfl
  | cons x xs ih =>
    intro acc
    show jn sep (((p ++ acc) ++ sep) ++ x) xs = p ++ jn sep ((acc ++ sep) ++ x) xs
    rw [← ih, ByteArray.append_assoc, ByteArray.append_assoc, ← ByteArray.append_assoc (a := acc)]
theorem jn_size (sep : ByteArray) (h1 : sep.size = 1) (xs : List ByteArray) (hs : ∀ s ∈ xs, s.size ≤ 8000) : ∀ acc, (jn sep acc xs).size ≤ acc.size + 8001 * xs.length := by
  induction xs with
  | nil => intro acc; exact Nat.le_refl _
  | cons x xs ih =>
    intro acc
    have := ih (fun s h => hs s (List.mem_cons_of_mem _ h)) ((acc ++ sep) ++ x)
    have hx := hs x List.mem_cons_self
    simp only [jn, ByteArray.size_append, List.length_cons] at this ⊢
    omega
theorem join_size (sep : ByteArray) (h1 : sep.size = 1) (xs : List ByteArray) (hs : ∀ s ∈ xs, s.size ≤ 8000) : (join sep xs).size ≤ 8001 * xs.length := by
  cases xs with
  | nil => exact Nat.le_refl _
  | cons x xs =>
    have := jn_size sep h1 xs (fun s h => hs s (List.mem_cons_of_mem _ h)) x
    have hx := hs x List.mem_cons_self
    simp only [join, List.length_cons]
    omega

theorem same_join : ∀ k a b c d e, xansi_zzJoin.l0 k a b c d e = spec_madeJoined.l0 k a b c d e := by
  intro k
  induction k with
  | zero => intro a b c d e; rfl
  | succ k ih => intro a b c d e; simp only [xansi_zzJoin.l0, spec_madeJoined.l0, ih]

theorem joined_l0 (l : List ByteArray) (sep : ByteArray) (hl : l.length ≤ 100) (hs : ∀ s ∈ l, s.size ≤ 8000) (h1 : sep.size = 1) : ∀ n i acc k, 1 ≤ i → i + n = l.length → acc.size ≤ 8001 * i → n < k → spec_madeJoined.l0 k sep acc l (l.length : Int) (i : Int) = some (jn sep acc (l.drop i)) := by
  intro n
  induction n with
  | zero =>
    intro i acc k _ hi _ hk
    obtain ⟨k, rfl⟩ : ∃ m, k = m + 1 := ⟨k - 1, by omega⟩
    rw [spec_madeJoined.l0, if_neg (by omega), List.drop_of_length_le (by omega)]
    rfl
  | succ n ih =>
    intro i acc k h1i hi ha hk
    obtain ⟨k, rfl⟩ : ∃ m, k = m + 1 := ⟨k - 1, by omega⟩
    have hlt : i < l.length := by omega
    have e := rdOf_at l i hlt
    have hx := hs l[i] (List.getElem_mem hlt)
    rw [spec_madeJoined.l0, e, if_pos (by omega), if_pos (by omega), if_pos (by omega), if_pos (by omega), if_pos (by omega), if_pos (by omega), wi i (by omega), ih (i + 1) _ k (by omega) (by omega) (by simp only [ByteArray.size_append]; omega) (by omega)]
    rw [List.drop_eq_getElem_cons hlt]; rfl
theorem joined (l : List ByteArray) (sep : ByteArray) (hl : l.length ≤ 100) (hs : ∀ s ∈ l, s.size ≤ 8000) (h1 : sep.size = 1) (k : Nat) (hk : 102 ≤ k) : spec_madeJoined.f k l sep = some (join sep l) := by
  obtain ⟨k, rfl⟩ : ∃ m, k = m + 1 := ⟨k - 1, by omega⟩
  unfold spec_madeJoined.f
  cases l with
  | nil => rw [spec_madeJoined.l0, if_neg (by simp)]; rfl
  | cons x xs =>
    have hx := hs x List.mem_cons_self
    have e : rdOf ByteArray.empty (x :: xs) 0 = x := rfl
    have hlen : (x :: xs).length = xs.length + 1 := rfl
    rw [spec_madeJoined.l0, e, if_pos (by omega), if_pos (by omega), if_pos (by omega), if_neg (by omega), if_pos (by rw [z0]; omega), empty_app, w01,
      joined_l0 (x :: xs) sep hl hs h1 xs.length 1 x k (by omega) (by omega) (by omega) (by omega)]
    rfl
theorem joined' (l : List ByteArray) (sep : ByteArray) (hl : l.length ≤ 100) (hs : ∀ s ∈ l, s.size ≤ 8000) (h1 : sep.size = 1) (k : Nat) (hk : 102 ≤ k) : xansi_zzJoin.f k l sep = some (join sep l) := by
  unfold xansi_zzJoin.f
  rw [same_join]
  exact joined l sep hl hs h1 k hk
theorem short_l0 (l : List ByteArray) (hl : l.length ≤ 2147483647) : ∀ n i k, i + n = l.length → n < k → (laws_makeShort.l0 k l l (l.length : Int) (i : Int) = some false ∨ ((∀ j, i ≤ j → (h : j < l.length) → l[j].size ≤ 4000) ∧ laws_makeShort.l0 k l l (l.length : Int) (i : Int) = some (decide ((l.length : Int) ≤ 60)))) := by
  intro n
  induction n with
  | zero =>
    intro i k hi hk
    obtain ⟨k, rfl⟩ : ∃ m, k = m + 1 := ⟨k - 1, by omega⟩
    right
    exact ⟨fun j hj h => absurd h (by omega), by rw [laws_makeShort.l0, if_neg (by omega)]⟩
  | succ n ih =>
    intro i k hi hk
    obtain ⟨k, rfl⟩ : ∃ m, k = m + 1 := ⟨k - 1, by omega⟩
    have hlt : i < l.length := by omega
    rw [laws_makeShort.l0, rdOf_at l i hlt, if_pos (by omega), if_pos (by omega), if_pos (by omega), wi i (by omega)]
    by_cases hb : (l[i].size : Int) > 4000
    · rw [if_pos hb]; exact Or.inl rfl
    · rw [if_neg hb]
      rcases ih (i + 1) k (by omega) (by omega) with h | ⟨h1, h2⟩
      · exact Or.inl h
      · refine Or.inr ⟨fun j hj h => ?_, h2⟩
        by_cases e : j = i
        · subst e; omega
        · exact h1 j (by omega) h
theorem short (l : List ByteArray) (hl : l.length ≤ 2147483647) (k : Nat) (hk : l.length + 1 ≤ k) : laws_makeShort.f k l = some false ∨ (laws_makeShort.f k l = some true ∧ l.length ≤ 60 ∧ ∀ s ∈ l, s.size ≤ 4000) := by
  unfold laws_makeShort.f
  rcases short_l0 l hl l.length 0 k (by omega) (by omega) with h | ⟨h1, h2⟩
  · exact Or.inl h
  · by_cases h6 : (l.length : Int) ≤ 60
    · refine Or.inr ⟨by rw [← decide_eq_true h6]; exact h2, by omega, fun s hs => ?_⟩
      obtain ⟨j, hj, rfl⟩ := List.mem_iff_getElem.1 hs
      exact h1 j (Nat.zero_le _) hj
    · exact Or.inl (by rw [← decide_eq_false h6]; exact h2)
theorem fits_l0 (l : List ByteArray) (hl : l.length ≤ 2147483647) : ∀ n i k, i + n = l.length → n < k → ∃ b, laws_zzFits5.l0 k l (l.length : Int) (i : Int) = some b := by
  intro n
  induction n with
  | zero =>
    intro i k hi hk
    obtain ⟨k, rfl⟩ : ∃ m, k = m + 1 := ⟨k - 1, by omega⟩
    exact ⟨true, by rw [laws_zzFits5.l0, if_neg (by omega)]⟩
  | succ n ih =>
    intro i k hi hk
    obtain ⟨k, rfl⟩ : ∃ m, k = m + 1 := ⟨k - 1, by omega⟩
    have hlt : i < l.length := by omega
    rw [laws_zzFits5.l0, if_pos (by omega), if_pos (by omega), if_pos (by omega), wi i (by omega)]
    by_cases hb : ((rdOf ByteArray.empty l (i : Int)).size : Int) > 2147483647
    · rw [if_pos hb]; exact ⟨_, rfl⟩
    · rw [if_neg hb]; exact ih (i + 1) k (by omega) (by omega)
theorem kstr_size (a : List Int) : (strOfNums a).size = a.length := by
  simp [strOfNums, ByteArray.size]
theorem kstr_of (l : List Int) : (⟨(l.map fun x => UInt8.ofNat x.toNat).toArray⟩ : ByteArray) = strOfNums l := rfl
theorem kown (l : List Int) (h : l.length ≤ 4000) : impl_own.f l = some l := by
  unfold impl_own.f
  rw [if_pos (by simp; omega), List.nil_append]

def PureFnKitty : Prop := ∀ (l0 : List Int) (l1 : List ByteArray), (∀ x ∈ l0, (Lit.int .u8 x).wf = true) → ∃ k, laws_FnKitty.f k l0 l1 = some true
theorem kshort_any (l : List ByteArray) (hl : l.length ≤ 2147483647) (k : Nat) (hk : l.length + 1 ≤ k) : laws_makeShort.f k l = some false ∨ (laws_makeShort.f k l = some true ∧ l.length ≤ 60 ∧ ∀ s ∈ l, s.size ≤ 4000) := short l hl k hk

theorem kitty_same (l0 : List Int) (h0 : l0.length ≤ 4000) (hw : bytesIn l0 = true) (l1 : List ByteArray) (h1 : l1.length ≤ 60) (hs : ∀ s ∈ l1, s.size ≤ 4000) (k : Nat) (hk : 102 ≤ k) : ∃ r, impl_Kitty.f k l0 l1 = some r ∧ spec_MadeKitty.f k l0 l1 = some r := by
  have hsep : (⟨#[44]⟩ : ByteArray).size = 1 := rfl
  have hs8 : ∀ s ∈ l1, s.size ≤ 8000 := fun s h => Nat.le_trans (hs s h) (by decide)
  have hj := joined' l1 ⟨#[44]⟩ (by omega) hs8 hsep k hk
  have hj2 := joined l1 ⟨#[44]⟩ (by omega) hs8 hsep k hk
  have hz := join_size ⟨#[44]⟩ hsep l1 hs8
  refine ⟨kittyT (join ⟨#[44]⟩ l1) (l0.map fun x => UInt8.ofNat x.toNat), ?_, ?_⟩
  · unfold impl_Kitty.f xansi_KittyGraphics.f
    rw [kown l0 h0, Option.bind_some, hj, Option.bind_some, if_pos ⟨hw, by omega⟩]
    rfl
  · unfold spec_MadeKitty.f
    rw [hj2, Option.bind_some, if_pos (by omega)]
    unfold kittyT
    by_cases hp : (l0.length : Int) > 0
    · rw [if_pos hp, kstr_size, if_pos (by omega), if_pos (by omega), if_pos (by omega)]
      have hne : (l0.map fun x => UInt8.ofNat x.toNat) ≠ [] := by
        intro h
        have := congrArg List.length h
        simp only [List.length_map, List.length_nil] at this
        omega
      rw [if_neg hne, kstr_of]
      exact congrArg some (by apply ByteArray.ext; simp [ByteArray.data_append])
    · have he : l0 = [] := List.length_eq_zero_iff.1 (by omega)
      rw [if_neg hp, if_pos (by omega), he]
      exact congrArg some (by apply ByteArray.ext; simp [ByteArray.data_append])

theorem FnKitty : PureFnKitty := by
  intro l0 l1 hw0
  have hw : bytesIn l0 = true := by
    unfold bytesIn
    rw [List.all_eq_true]
    intro x hx
    have := wf_u8 (hw0 x hx)
    simp only [Bool.and_eq_true, decide_eq_true_eq]
    exact this
  have yes : ∀ k, laws_FnKitty.j0 (k + 1) l0 l1 true = some true := fun k => by simp only [laws_FnKitty.j0, if_true]
  have aw : ∀ k, laws_FnKitty.j1 (k + 1) l0 l1 true = some true := fun k => by simp only [laws_FnKitty.j1, if_true, awake, Option.bind_some]
  by_cases hbig : (l1.length : Int) > 2147483647
  · refine ⟨1, ?_⟩
    unfold laws_FnKitty.f laws_zzFits5.f
    rw [if_pos hbig]
    split
    · exact yes 0
    · exact yes 0
  have hl : l1.length ≤ 2147483647 := by omega
  by_cases hbg : (l0.length : Int) > 2147483647
  · refine ⟨1, ?_⟩
    unfold laws_FnKitty.f
    rw [if_pos hbg]
    exact yes 0
  refine ⟨l1.length + 200 + 2, ?_⟩
  obtain ⟨b, hb⟩ := fits_l0 l1 hl l1.length 0 (l1.length + 200 + 2) (by omega) (by omega)
  unfold laws_FnKitty.f laws_zzFits5.f
  rw [if_neg hbg, if_neg hbig, show laws_zzFits5.l0 (l1.length + 200 + 2) l1 (l1.length : Int) 0 = some b from hb, Option.bind_some]
  cases b with
  | false => exact yes _
  | true =>
    rw [show l1.length + 200 + 2 = (l1.length + 200 + 1) + 1 from rfl]
    simp only [laws_FnKitty.j0, Bool.not_true, Bool.false_eq_true, if_false]
    by_cases h4 : (l0.length : Int) > 4000
    · rw [if_pos h4]; exact aw _
    rw [if_neg h4]
    rcases short l1 hl (l1.length + 200 + 1) (by omega) with h | ⟨h, h6, hs⟩
    · rw [h]; simp only [Option.bind_some, Bool.not_false]; exact aw _
    · rw [h]
      simp only [Option.bind_some, if_true, Bool.not_true, laws_FnKitty.j1, awake, Bool.false_eq_true, if_false]
      obtain ⟨r, e1, e2⟩ := kitty_same l0 (by omega) hw l1 h6 hs (l1.length + 200) (by omega)
      rw [e1, e2]
      simp

theorem walk (P : PureFnKitty) (a0 : Option Addr) (len0 cap0 : Nat) (z0 : List Int) (a1 : Option Addr) (len1 cap1 : Nat) (z1 : List ByteArray) (w : World) (hLD : Laid w) (w0 : (a0 = none ∧ len0 = 0 ∧ cap0 = 0 ∧ z0 = []) ∨ ∃ x, a0 = some x ∧ len0 ≤ cap0 ∧ cap0 ≤ maxLen ∧ z0.length = cap0 ∧ (∀ i, i < z0.length → w.cell? (x.add i) = some (.int .u8 (z0.getD i 0))) ∧ ∀ n ∈ z0, (Lit.int .u8 n).wf = true) (_y0 : len0 * 1 ≤ 140737488351232) (w1 : Strs.IsStrs w a1 len1 cap1 z1) :
    Calls Tryd.prog 6 #[.slice a0 len0 cap0, .slice a1 len1 cap1] w fun e w' => e = .returned (.bool true) ∧ Below w.heap.size w w' := by
  obtain ⟨l0, rfl, hr0, hm0, hw0, hc0⟩ := ReadsInt.ofRowC w0
  obtain ⟨l1, rfl, hr1, hm1, hw1, hc1⟩ := Strs.row w1
  obtain ⟨k, h⟩ := P l0 l1 hw0
  refine (laws_FnKitty.calls k _ _ l0 _ _ l1 true w (Kd.C_of_reads (d := (0 : Int)) (h1 := fun _ => rfl) hr0) hc0 hr1 hc1 hLD h).mono ?_
  rintro e w' ⟨rfl, hd⟩
  exact ⟨rfl, hd⟩

end Go.Proofs.YtjjkagjdbjpikaaDoor.Pure
