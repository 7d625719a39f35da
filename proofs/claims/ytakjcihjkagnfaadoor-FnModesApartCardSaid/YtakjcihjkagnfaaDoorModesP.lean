/- Lists of numbers joined as texts: what the join and the reference's numbers are. No memory, no Go. -/
import Derived.Test.YtakjcihjkagnfaaDoorPMx1
import Derived.Test.YtakjcihjkagnfaaDoorDigM
namespace Go.Proofs.YtakjcihjkagnfaaDoor.Mp
open Go Go.RowKit Go.Proofs.YtakjcihjkagnfaaDoor.PM Go.Proofs.YtakjcihjkagnfaaDoor.Or Go.Proofs.YtakjcihjkagnfaaDoor.Dig Go.Proofs.YtakjcihjkagnfaaDoorW.PrintWords Go.Proofs.YtakjcihjkagnfaaDoorW.PrintLast Go.Proofs.YtakjcihjkagnfaaDoorW.PrintMore

set_option linter.unusedSimpArgs false
set_option linter.unusedVariables false
theorem rd_at (l : List Int) (i : Nat) (h : i < l.length) : rd l (i : Int) = l[i] := by unfold rd; simp [h]
theorem rdOf_at (l : List ByteArray) (i : Nat) (h : i < l.length) : rdOf ByteArray.empty l (i : Int) = l[i] := by unfold rdOf; simp [h]
theorem wi (i : Nat) (h : i ≤ 1000) : wrap64 ((i : Int) + 1) = ((i + 1 : Nat) : Int) := by unfold wrap64; omega
theorem w01 : wrap64 (0 + 1) = ((1 : Nat) : Int) := by decide +kernel
theorem z0 : (⟨#[]⟩ : ByteArray).size = 0 := rfl
theorem z1 (c : UInt8) : (⟨#[c]⟩ : ByteArray).size = 1 := rfl
theorem take_one (l : List Int) (i : Nat) (h : i < l.length) : l.take (i + 1) = l.take i ++ [l[i]] := by simp [h]
theorem empty_app (s : ByteArray) : (⟨#[]⟩ : ByteArray) ++ s = s := ByteArray.empty_append
theorem set_mid (A : List ByteArray) (e x : ByteArray) (n m : Nat) (hn : A.length = n) : (A ++ List.replicate (m + 1) e).set n x = (A ++ [x]) ++ List.replicate m e := by
  subst hn
  rw [List.set_append_right _ _ (Nat.le_refl _), Nat.sub_self, List.replicate_succ, List.set_cons_zero, List.append_assoc]; rfl

/-- Texts joined with a separator, after a first. -/
def jn (sep : ByteArray) : ByteArray → List ByteArray → ByteArray
  | acc, [] => acc
  | acc, x :: xs => jn sep ((acc ++ sep) ++ x) xs
def join (sep : ByteArray) : List ByteArray → ByteArray
  | [] => ⟨#[]⟩
  | x :: xs => jn sep x xs
theorem jn_pre (sep p : ByteArray) (xs : List ByteArray) : ∀ acc, jn sep (p ++ acc) xs = p ++ jn sep acc xs := by
  induction xs with
  | nil => intro acc; rfl
  | cons x xs ih =>
    intro acc
    show jn sep (((p ++ acc) ++ sep) ++ x) xs = p ++ jn sep ((acc ++ sep) ++ x) xs
    rw [← ih, ByteArray.append_assoc, ByteArray.append_assoc, ← ByteArray.append_assoc (a := acc)]
theorem jn_size (sep : ByteArray) (h1 : sep.size = 1) (xs : List ByteArray) (hs : ∀ s ∈ xs, s.size ≤ 21) : ∀ acc, (jn sep acc xs).size ≤ acc.size + 22 * xs.length := by
  induction xs with
  | nil => intro acc; exact Nat.le_refl _
  | cons x xs ih =>
    intro acc
    have := ih (fun s h => hs s (List.mem_cons_of_mem _ h)) ((acc ++ sep) ++ x)
    have hx := hs x List.mem_cons_self
    simp only [jn, ByteArray.size_append, List.length_cons] at this ⊢
    omega
theorem join_size (sep : ByteArray) (h1 : sep.size = 1) (xs : List ByteArray) (hs : ∀ s ∈ xs, s.size ≤ 21) : (join sep xs).size ≤ 22 * xs.length := by
  cases xs with
  | nil => exact Nat.le_refl _
  | cons x xs =>
    have := jn_size sep h1 xs (fun s h => hs s (List.mem_cons_of_mem _ h)) x
    have hx := hs x List.mem_cons_self
    simp only [join, List.length_cons]
    omega

theorem same_join : ∀ k a b c d e, xansi_zzJoin.l0 k a b c d e = spec_madeJoined.l0 k a b c d e := by
  intro k
  induction k with
  | zero => intro a b c d e; rfl
  | succ k ih => intro a b c d e; simp only [xansi_zzJoin.l0, spec_madeJoined.l0, ih]

theorem joined_l0 (l : List ByteArray) (sep : ByteArray) (hl : l.length ≤ 200) (hs : ∀ s ∈ l, s.size ≤ 21) (h1 : sep.size = 1) : ∀ n i acc k, 1 ≤ i → i + n = l.length → acc.size ≤ 22 * i → n < k → spec_madeJoined.l0 k sep acc l (l.length : Int) (i : Int) = some (jn sep acc (l.drop i)) := by
  intro n
  induction n with
  | zero =>
    intro i acc k _ hi _ hk
    obtain ⟨k, rfl⟩ : ∃ m, k = m + 1 := ⟨k - 1, by omega⟩
    rw [spec_madeJoined.l0, if_neg (by omega), List.drop_of_length_le (by omega)]
    rfl
  | succ n ih =>
    intro i acc k h1i hi ha hk
    obtain ⟨k, rfl⟩ : ∃ m, k = m + 1 := ⟨k - 1, by omega⟩
    have hlt : i < l.length := by omega
    have e := rdOf_at l i hlt
    have hx := hs l[i] (List.getElem_mem hlt)
    rw [spec_madeJoined.l0, e, if_pos (by omega), if_pos (by omega), if_pos (by omega), if_pos (by omega), if_pos (by omega), if_pos (by omega), wi i (by omega), ih (i + 1) _ k (by omega) (by omega) (by simp only [ByteArray.size_append]; omega) (by omega)]
    rw [List.drop_eq_getElem_cons hlt]; rfl
theorem joined (l : List ByteArray) (sep : ByteArray) (hl : l.length ≤ 200) (hs : ∀ s ∈ l, s.size ≤ 21) (h1 : sep.size = 1) (k : Nat) (hk : 202 ≤ k) : spec_madeJoined.f k l sep = some (join sep l) := by
  obtain ⟨k, rfl⟩ : ∃ m, k = m + 1 := ⟨k - 1, by omega⟩
  unfold spec_madeJoined.f
  cases l with
  | nil => rw [spec_madeJoined.l0, if_neg (by simp)]; rfl
  | cons x xs =>
    have hx := hs x List.mem_cons_self
    have e : rdOf ByteArray.empty (x :: xs) 0 = x := rfl
    have hlen : (x :: xs).length = xs.length + 1 := rfl
    rw [spec_madeJoined.l0, e, if_pos (by omega), if_pos (by omega), if_pos (by omega), if_neg (by omega), if_pos (by rw [z0]; omega), empty_app, w01,
      joined_l0 (x :: xs) sep hl hs h1 xs.length 1 x k (by omega) (by omega) (by omega) (by omega)]
    rfl
theorem joined' (l : List ByteArray) (sep : ByteArray) (hl : l.length ≤ 200) (hs : ∀ s ∈ l, s.size ≤ 21) (h1 : sep.size = 1) (k : Nat) (hk : 202 ≤ k) : xansi_zzJoin.f k l sep = some (join sep l) := by
  unfold xansi_zzJoin.f
  rw [same_join]
  exact joined l sep hl hs h1 k hk

def In (l : List Int) : Prop := ∀ x ∈ l, -9223372036854775808 ≤ x ∧ x ≤ 9223372036854775807
theorem In.at {l : List Int} (h : In l) (i : Nat) (hi : i < l.length) : -9223372036854775808 ≤ l[i] ∧ l[i] ≤ 9223372036854775807 := h _ (List.getElem_mem hi)
theorem In.sizes {l : List Int} (h : In l) : ∀ s ∈ l.map dig, s.size ≤ 21 := by
  intro s hs
  obtain ⟨x, hx, rfl⟩ := List.mem_map.1 hs
  exact dig_size x (h x hx).1 (h x hx).2
theorem In.tail {x : Int} {l : List Int} (h : In (x :: l)) : In l := fun y hy => h y (List.mem_cons_of_mem _ hy)
theorem numbers_l0 (sep : ByteArray) (l : List Int) (hl : l.length ≤ 100) (hw : In l) : ∀ n i k, i + n = l.length → n + 40 ≤ k → spec_madeNumbers.l0 k sep ((l.take i).map dig) l (l.length : Int) (i : Int) = spec_madeNumbers.l0 (k - n) sep (l.map dig) l (l.length : Int) (l.length : Int) := by
  intro n
  induction n with
  | zero =>
    intro i k hi hk
    rw [List.take_of_length_le (by omega)]
    obtain rfl : i = l.length := by omega
    rfl
  | succ n ih =>
    intro i k hi hk
    obtain ⟨k, rfl⟩ : ∃ m, k = m + 1 := ⟨k - 1, by omega⟩
    have hlt : i < l.length := by omega
    have hx := hw.at i hlt
    have ht : ((l.take i).map dig).length < 8796093022208 := by rw [List.length_map, List.length_take]; omega
    rw [spec_madeNumbers.l0, rd_at l i hlt, if_pos (by omega), if_pos (by omega), if_pos (by omega), digits l[i] hx.1 hx.2 k (by omega), Option.bind_some, if_pos ht, wi i (by omega),
      show (l.take i).map dig ++ [dig l[i]] = (l.take (i + 1)).map dig by rw [take_one l i hlt, List.map_append]; rfl, ih (i + 1) k (by omega) (by omega),
      show k + 1 - (n + 1) = k - n by omega]

theorem numbers (l : List Int) (sep : ByteArray) (hl : l.length ≤ 100) (hw : In l) (h1 : sep.size = 1) (k : Nat) (hk : 400 ≤ k) : spec_madeNumbers.f k l sep = some (join sep (l.map dig)) := by
  unfold spec_madeNumbers.f
  refine (numbers_l0 sep l hl hw l.length 0 k (by omega) (by omega)).trans ?_
  obtain ⟨m, e⟩ : ∃ m, k - l.length = m + 1 := ⟨k - l.length - 1, by omega⟩
  rw [e, spec_madeNumbers.l0, if_neg (by omega), joined _ sep (by rw [List.length_map]; omega) hw.sizes h1 m (by omega)]
  rfl

end Go.Proofs.YtakjcihjkagnfaaDoor.Mp
