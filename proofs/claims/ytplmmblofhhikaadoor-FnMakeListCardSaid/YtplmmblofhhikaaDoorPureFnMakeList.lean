/- It is proved that the law FnMakeList answers true: a function of a list of numbers makes just the sequence that the reference tells; for every list and every function, with no further condition. -/
import Derived.Test.YtplmmblofhhikaaDoorPMx10
import Derived.Test.YtplmmblofhhikaaDoorAwakeM
import Derived.Test.YtplmmblofhhikaaDoorDigM
namespace Go.Proofs.YtplmmblofhhikaaDoor.Pure
open Go Go.RowKit Go.Proofs.YtplmmblofhhikaaDoor.PM Go.Proofs.YtplmmblofhhikaaDoor.Or Go.Proofs.YtplmmblofhhikaaDoor.Aw Go.Proofs.YtplmmblofhhikaaDoor.Dig Go.Proofs.YtplmmblofhhikaaDoorW.PrintWords Go.Proofs.YtplmmblofhhikaaDoorW.PrintLast Go.Proofs.YtplmmblofhhikaaDoorW.PrintMore

set_option linter.unusedSimpArgs false
set_option linter.unusedVariables false
theorem rd_at (l : List Int) (i : Nat) (h : i < l.length) : rd l (i : Int) = l[i] := by unfold rd; simp [h]
theorem rdOf_at (l : List ByteArray) (i : Nat) (h : i < l.length) : rdOf ByteArray.empty l (i : Int) = l[i] := by unfold rdOf; simp [h]
theorem wi (i : Nat) (h : i ≤ 1000) : wrap64 ((i : Int) + 1) = ((i + 1 : Nat) : Int) := by unfold wrap64; omega
theorem w01 : wrap64 (0 + 1) = ((1 : Nat) : Int) := by decide +kernel
theorem z0 : (⟨#[]⟩ : ByteArray).size = 0 := rfl
theorem z1 (c : UInt8) : (⟨#[c]⟩ : ByteArray).size = 1 := rfl
theorem take_one (l : List Int) (i : Nat) (h : i < l.length) : l.take (i + 1) = l.take i ++ [l[i]] := by simp [h]
theorem empty_app (s : ByteArray) : (⟨#[]⟩ : ByteArray) ++ s = s := ByteArray.empty_append
theorem set_mid (A : List ByteArray) (e x : ByteArray) (n m : Nat) (hn : A.length = n) : (A ++ List.replicate (m + 1) e).set n x = (A ++ [x]) ++ List.replicate m e := by
  subst hn
  rw [List.set_append_right _ _ (Nat.le_refl _), Nat.sub_self, List.replicate_succ, List.set_cons_zero, List.append_assoc]; rfl

/-- Texts joined with a separator, after a first. -/
def jn (sep : ByteArray) : ByteArray → List ByteArray → ByteArray
  | acc, [] => acc
  | acc, x :: xs => jn sep ((acc ++ sep) ++ x) xs
def join (sep : ByteArray) : List ByteArray → ByteArray
  | [] => ⟨#[]⟩
  | x :: xs => jn sep x xs
theorem jn_pre (sep p : ByteArray) (xs : List ByteArray) : ∀ acc, jn sep (p ++ acc) xs = p ++ jn sep acc xs := by
  induction xs with
  | nil => intro acc; rfl
  | cons x xs ih =>
    intro acc
    show jn sep (((p ++ acc) ++ sep) ++ x) xs = p ++ jn sep ((acc ++ sep) ++ x) xs
    rw [← ih, ByteArray.append_assoc, ByteArray.append_assoc, ← ByteArray.append_assoc (a := acc)]
theorem jn_size (sep : ByteArray) (h1 : sep.size = 1) (xs : List ByteArray) (hs : ∀ s ∈ xs, s.size ≤ 21) : ∀ acc, (jn sep acc xs).size ≤ acc.size + 22 * xs.length := by
  induction xs with
  | nil => intro acc; exact Nat.le_refl _
  | cons x xs ih =>
    intro acc
    have := ih (fun s h => hs s (List.mem_cons_of_mem _ h)) ((acc ++ sep) ++ x)
    have hx := hs x List.mem_cons_self
    simp only [jn, ByteArray.size_append, List.length_cons] at this ⊢
    omega
theorem join_size (sep : ByteArray) (h1 : sep.size = 1) (xs : List ByteArray) (hs : ∀ s ∈ xs, s.size ≤ 21) : (join sep xs).size ≤ 22 * xs.length := by
  cases xs with
  | nil => exact Nat.le_refl _
  | cons x xs =>
    have := jn_size sep h1 xs (fun s h => hs s (List.mem_cons_of_mem _ h)) x
    have hx := hs x List.mem_cons_self
    simp only [join, List.length_cons]
    omega

theorem same_join : ∀ k a b c d e, xansi_zzJoin.l0 k a b c d e = spec_madeJoined.l0 k a b c d e := by
  intro k
  induction k with
  | zero => intro a b c d e; rfl
  | succ k ih => intro a b c d e; simp only [xansi_zzJoin.l0, spec_madeJoined.l0, ih]

theorem joined_l0 (l : List ByteArray) (sep : ByteArray) (hl : l.length ≤ 200) (hs : ∀ s ∈ l, s.size ≤ 21) (h1 : sep.size = 1) : ∀ n i acc k, 1 ≤ i → i + n = l.length → acc.size ≤ 22 * i → n < k → spec_madeJoined.l0 k sep acc l (l.length : Int) (i : Int) = some (jn sep acc (l.drop i)) := by
  intro n
  induction n with
  | zero =>
    intro i acc k _ hi _ hk
    obtain ⟨k, rfl⟩ : ∃ m, k = m + 1 := ⟨k - 1, by omega⟩
    rw [spec_madeJoined.l0, if_neg (by omega), List.drop_of_length_le (by omega)]
    rfl
  | succ n ih =>
    intro i acc k h1i hi ha hk
    obtain ⟨k, rfl⟩ : ∃ m, k = m + 1 := ⟨k - 1, by omega⟩
    have hlt : i < l.length := by omega
    have e := rdOf_at l i hlt
    have hx := hs l[i] (List.getElem_mem hlt)
    rw [spec_madeJoined.l0, e, if_pos (by omega), if_pos (by omega), if_pos (by omega), if_pos (by omega), if_pos (by omega), if_pos (by omega), wi i (by omega), ih (i + 1) _ k (by omega) (by omega) (by simp only [ByteArray.size_append]; omega) (by omega)]
    rw [List.drop_eq_getElem_cons hlt]; rfl
theorem joined (l : List ByteArray) (sep : ByteArray) (hl : l.length ≤ 200) (hs : ∀ s ∈ l, s.size ≤ 21) (h1 : sep.size = 1) (k : Nat) (hk : 202 ≤ k) : spec_madeJoined.f k l sep = some (join sep l) := by
  obtain ⟨k, rfl⟩ : ∃ m, k = m + 1 := ⟨k - 1, by omega⟩
  unfold spec_madeJoined.f
  cases l with
  | nil => rw [spec_madeJoined.l0, if_neg (by simp)]; rfl
  | cons x xs =>
    have hx := hs x List.mem_cons_self
    have e : rdOf ByteArray.empty (x :: xs) 0 = x := rfl
    have hlen : (x :: xs).length = xs.length + 1 := rfl
    rw [spec_madeJoined.l0, e, if_pos (by omega), if_pos (by omega), if_pos (by omega), if_neg (by omega), if_pos (by rw [z0]; omega), empty_app, w01,
      joined_l0 (x :: xs) sep hl hs h1 xs.length 1 x k (by omega) (by omega) (by omega) (by omega)]
    rfl
theorem joined' (l : List ByteArray) (sep : ByteArray) (hl : l.length ≤ 200) (hs : ∀ s ∈ l, s.size ≤ 21) (h1 : sep.size = 1) (k : Nat) (hk : 202 ≤ k) : xansi_zzJoin.f k l sep = some (join sep l) := by
  unfold xansi_zzJoin.f
  rw [same_join]
  exact joined l sep hl hs h1 k hk

def In (l : List Int) : Prop := ∀ x ∈ l, -9223372036854775808 ≤ x ∧ x ≤ 9223372036854775807
theorem In.at {l : List Int} (h : In l) (i : Nat) (hi : i < l.length) : -9223372036854775808 ≤ l[i] ∧ l[i] ≤ 9223372036854775807 := h _ (List.getElem_mem hi)
theorem In.sizes {l : List Int} (h : In l) : ∀ s ∈ l.map dig, s.size ≤ 21 := by
  intro s hs
  obtain ⟨x, hx, rfl⟩ := List.mem_map.1 hs
  exact dig_size x (h x hx).1 (h x hx).2
theorem In.tail {x : Int} {l : List Int} (h : In (x :: l)) : In l := fun y hy => h y (List.mem_cons_of_mem _ hy)

theorem count_l0 (l : List Int) (hl : l.length ≤ 100) : ∀ n i k, i + n = l.length → n < k → impl_count.l0 k (l.take i) l (l.length : Int) (i : Int) = some l := by
  intro n
  induction n with
  | zero =>
    intro i k hi hk
    obtain ⟨k, rfl⟩ : ∃ m, k = m + 1 := ⟨k - 1, by omega⟩
    rw [impl_count.l0, if_neg (by omega), List.take_of_length_le (by omega)]
  | succ n ih =>
    intro i k hi hk
    obtain ⟨k, rfl⟩ : ∃ m, k = m + 1 := ⟨k - 1, by omega⟩
    have hlt : i < l.length := by omega
    have ht : (l.take i).length < 17592186044416 := by rw [List.length_take]; omega
    rw [impl_count.l0, rd_at l i hlt, if_pos (by omega), if_pos (by omega), if_pos (by omega), if_pos ht, wi i (by omega), ← take_one l i hlt, ih (i + 1) k (by omega) (by omega)]
theorem count (l : List Int) (hl : l.length ≤ 100) (k : Nat) (hk : 102 ≤ k) : impl_count.f k l = some l := by
  unfold impl_count.f
  exact count_l0 l hl l.length 0 k (by omega) (by omega)

theorem numbers_l0 (sep : ByteArray) (l : List Int) (hl : l.length ≤ 100) (hw : In l) : ∀ n i k, i + n = l.length → n + 40 ≤ k → spec_madeNumbers.l0 k sep ((l.take i).map dig) l (l.length : Int) (i : Int) = spec_madeNumbers.l0 (k - n) sep (l.map dig) l (l.length : Int) (l.length : Int) := by
  intro n
  induction n with
  | zero =>
    intro i k hi hk
    rw [List.take_of_length_le (by omega)]
    obtain rfl : i = l.length := by omega
    rfl
  | succ n ih =>
    intro i k hi hk
    obtain ⟨k, rfl⟩ : ∃ m, k = m + 1 := ⟨k - 1, by omega⟩
    have hlt : i < l.length := by omega
    have hx := hw.at i hlt
    have ht : ((l.take i).map dig).length < 8796093022208 := by rw [List.length_map, List.length_take]; omega
    rw [spec_madeNumbers.l0, rd_at l i hlt, if_pos (by omega), if_pos (by omega), if_pos (by omega), digits l[i] hx.1 hx.2 k (by omega), Option.bind_some, if_pos ht, wi i (by omega),
      show (l.take i).map dig ++ [dig l[i]] = (l.take (i + 1)).map dig by rw [take_one l i hlt, List.map_append]; rfl, ih (i + 1) k (by omega) (by omega),
      show k + 1 - (n + 1) = k - n by omega]

theorem info_l0 (l : List Int) (hl : l.length ≤ 100) (hw : In l) : ∀ n i k, i + n = l.length → n + 40 ≤ k → xansi_CursorInformationReport.l0 k ((l.take i).map dig) l (l.length : Int) (i : Int) = xansi_CursorInformationReport.l0 (k - n) (l.map dig) l (l.length : Int) (l.length : Int) := by
  intro n
  induction n with
  | zero =>
    intro i k hi hk
    rw [List.take_of_length_le (by omega)]
    obtain rfl : i = l.length := by omega
    rfl
  | succ n ih =>
    intro i k hi hk
    obtain ⟨k, rfl⟩ : ∃ m, k = m + 1 := ⟨k - 1, by omega⟩
    have hlt : i < l.length := by omega
    have hx := hw.at i hlt
    have ht : ((l.take i).map dig).length < 8796093022208 := by rw [List.length_map, List.length_take]; omega
    rw [xansi_CursorInformationReport.l0, rd_at l i hlt, if_pos (by omega), if_pos (by omega), if_pos (by omega), itoa_f l[i] hx.1 hx.2, Option.bind_some, if_pos ht, wi i (by omega),
      show (l.take i).map dig ++ [dig l[i]] = (l.take (i + 1)).map dig by rw [take_one l i hlt, List.map_append]; rfl, ih (i + 1) k (by omega) (by omega),
      show k + 1 - (n + 1) = k - n by omega]

theorem tabs_l0 (l : List Int) (hl : l.length ≤ 100) (hw : In l) : ∀ n i k, i + n = l.length → n + 40 ≤ k → xansi_TabStopReport.l0 k ((l.take i).map dig) l (l.length : Int) (i : Int) = xansi_TabStopReport.l0 (k - n) (l.map dig) l (l.length : Int) (l.length : Int) := by
  intro n
  induction n with
  | zero =>
    intro i k hi hk
    rw [List.take_of_length_le (by omega)]
    obtain rfl : i = l.length := by omega
    rfl
  | succ n ih =>
    intro i k hi hk
    obtain ⟨k, rfl⟩ : ∃ m, k = m + 1 := ⟨k - 1, by omega⟩
    have hlt : i < l.length := by omega
    have hx := hw.at i hlt
    have ht : ((l.take i).map dig).length < 8796093022208 := by rw [List.length_map, List.length_take]; omega
    rw [xansi_TabStopReport.l0, rd_at l i hlt, if_pos (by omega), if_pos (by omega), if_pos (by omega), itoa_f l[i] hx.1 hx.2, Option.bind_some, if_pos ht, wi i (by omega),
      show (l.take i).map dig ++ [dig l[i]] = (l.take (i + 1)).map dig by rw [take_one l i hlt, List.map_append]; rfl, ih (i + 1) k (by omega) (by omega),
      show k + 1 - (n + 1) = k - n by omega]


theorem numbers (l : List Int) (sep : ByteArray) (hl : l.length ≤ 100) (hw : In l) (h1 : sep.size = 1) (k : Nat) (hk : 400 ≤ k) : spec_madeNumbers.f k l sep = some (join sep (l.map dig)) := by
  unfold spec_madeNumbers.f
  refine (numbers_l0 sep l hl hw l.length 0 k (by omega) (by omega)).trans ?_
  obtain ⟨m, e⟩ : ∃ m, k - l.length = m + 1 := ⟨k - l.length - 1, by omega⟩
  rw [e, spec_madeNumbers.l0, if_neg (by omega), joined _ sep (by rw [List.length_map]; omega) hw.sizes h1 m (by omega)]
  rfl

theorem info (l : List Int) (hl : l.length ≤ 100) (hw : In l) (k : Nat) (hk : 400 ≤ k) : xansi_CursorInformationReport.f k l = some (((⟨#[27, 80, 49, 36, 117]⟩ : ByteArray) ++ join ⟨#[59]⟩ (l.map dig)) ++ (⟨#[27, 92]⟩ : ByteArray)) := by
  unfold xansi_CursorInformationReport.f
  refine (info_l0 l hl hw l.length 0 k (by omega) (by omega)).trans ?_
  obtain ⟨m, e⟩ : ∃ m, k - l.length = m + 1 := ⟨k - l.length - 1, by omega⟩
  have hz := join_size ⟨#[59]⟩ rfl (l.map dig) hw.sizes
  rw [List.length_map] at hz
  rw [e, xansi_CursorInformationReport.l0, if_neg (by omega), joined' _ ⟨#[59]⟩ (by rw [List.length_map]; omega) hw.sizes rfl m (by omega), Option.bind_some, if_pos (by omega), if_pos (by omega)]

theorem tabs (l : List Int) (hl : l.length ≤ 100) (hw : In l) (k : Nat) (hk : 400 ≤ k) : xansi_TabStopReport.f k l = some (((⟨#[27, 80, 50, 36, 117]⟩ : ByteArray) ++ join ⟨#[47]⟩ (l.map dig)) ++ (⟨#[27, 92]⟩ : ByteArray)) := by
  unfold xansi_TabStopReport.f
  refine (tabs_l0 l hl hw l.length 0 k (by omega) (by omega)).trans ?_
  obtain ⟨m, e⟩ : ∃ m, k - l.length = m + 1 := ⟨k - l.length - 1, by omega⟩
  have hz := join_size ⟨#[47]⟩ rfl (l.map dig) hw.sizes
  rw [List.length_map] at hz
  rw [e, xansi_TabStopReport.l0, if_neg (by omega), joined' _ ⟨#[47]⟩ (by rw [List.length_map]; omega) hw.sizes rfl m (by omega), Option.bind_some, if_pos (by omega), if_pos (by omega)]

theorem prim_l0 (l : List Int) (hl : l.length ≤ 100) (hw : In l) : ∀ n i k, i + n = l.length → n + 40 ≤ k → xansi_PrimaryDeviceAttributes.l0 k ((l.take i).map dig ++ List.replicate n (⟨#[]⟩ : ByteArray)) l (l.length : Int) (i : Int) = xansi_PrimaryDeviceAttributes.l0 (k - n) (l.map dig) l (l.length : Int) (l.length : Int) := by
  intro n
  induction n with
  | zero =>
    intro i k hi hk
    rw [List.take_of_length_le (by omega), List.replicate_zero, List.append_nil]
    obtain rfl : i = l.length := by omega
    rfl
  | succ n ih =>
    intro i k hi hk
    obtain ⟨k, rfl⟩ : ∃ m, k = m + 1 := ⟨k - 1, by omega⟩
    have hlt : i < l.length := by omega
    have hx := hw.at i hlt
    have hn : ((l.take i).map dig).length = i := by rw [List.length_map, List.length_take]; omega
    have ht : (((l.take i).map dig ++ List.replicate (n + 1) (⟨#[]⟩ : ByteArray)).length : Int) = (l.length : Int) := by rw [List.length_append, hn, List.length_replicate]; omega
    rw [xansi_PrimaryDeviceAttributes.l0, rd_at l i hlt, if_pos (by omega), if_pos (by omega), if_pos (by omega), itoa_f l[i] hx.1 hx.2, Option.bind_some, if_pos (by omega), wi i (by omega), Int.toNat_natCast,
      set_mid _ _ _ i n hn, show (l.take i).map dig ++ [dig l[i]] = (l.take (i + 1)).map dig by rw [take_one l i hlt, List.map_append]; rfl, ih (i + 1) k (by omega) (by omega),
      show k + 1 - (n + 1) = k - n by omega]
theorem prim_end (l : List Int) (hl : l.length ≤ 100) (hw : In l) (k : Nat) (hk : 400 ≤ k) : xansi_PrimaryDeviceAttributes.l0 k (List.replicate l.length (⟨#[]⟩ : ByteArray)) l (l.length : Int) 0 = some (((⟨#[27, 91, 63]⟩ : ByteArray) ++ join ⟨#[59]⟩ (l.map dig)) ++ (⟨#[99]⟩ : ByteArray)) := by
  refine (prim_l0 l hl hw l.length 0 k (by omega) (by omega)).trans ?_
  obtain ⟨m, e⟩ : ∃ m, k - l.length = m + 1 := ⟨k - l.length - 1, by omega⟩
  have hz := join_size ⟨#[59]⟩ rfl (l.map dig) hw.sizes
  rw [List.length_map] at hz
  rw [e, xansi_PrimaryDeviceAttributes.l0, if_neg (by omega), joined' _ ⟨#[59]⟩ (by rw [List.length_map]; omega) hw.sizes rfl m (by omega), Option.bind_some, if_pos (by omega), if_pos (by omega)]

theorem seco_l0 (l : List Int) (hl : l.length ≤ 100) (hw : In l) : ∀ n i k, i + n = l.length → n + 40 ≤ k → xansi_SecondaryDeviceAttributes.l0 k ((l.take i).map dig ++ List.replicate n (⟨#[]⟩ : ByteArray)) l (l.length : Int) (i : Int) = xansi_SecondaryDeviceAttributes.l0 (k - n) (l.map dig) l (l.length : Int) (l.length : Int) := by
  intro n
  induction n with
  | zero =>
    intro i k hi hk
    rw [List.take_of_length_le (by omega), List.replicate_zero, List.append_nil]
    obtain rfl : i = l.length := by omega
    rfl
  | succ n ih =>
    intro i k hi hk
    obtain ⟨k, rfl⟩ : ∃ m, k = m + 1 := ⟨k - 1, by omega⟩
    have hlt : i < l.length := by omega
    have hx := hw.at i hlt
    have hn : ((l.take i).map dig).length = i := by rw [List.length_map, List.length_take]; omega
    have ht : (((l.take i).map dig ++ List.replicate (n + 1) (⟨#[]⟩ : ByteArray)).length : Int) = (l.length : Int) := by rw [List.length_append, hn, List.length_replicate]; omega
    rw [xansi_SecondaryDeviceAttributes.l0, rd_at l i hlt, if_pos (by omega), if_pos (by omega), if_pos (by omega), itoa_f l[i] hx.1 hx.2, Option.bind_some, if_pos (by omega), wi i (by omega), Int.toNat_natCast,
      set_mid _ _ _ i n hn, show (l.take i).map dig ++ [dig l[i]] = (l.take (i + 1)).map dig by rw [take_one l i hlt, List.map_append]; rfl, ih (i + 1) k (by omega) (by omega),
      show k + 1 - (n + 1) = k - n by omega]
theorem seco_end (l : List Int) (hl : l.length ≤ 100) (hw : In l) (k : Nat) (hk : 400 ≤ k) : xansi_SecondaryDeviceAttributes.l0 k (List.replicate l.length (⟨#[]⟩ : ByteArray)) l (l.length : Int) 0 = some (((⟨#[27, 91, 62]⟩ : ByteArray) ++ join ⟨#[59]⟩ (l.map dig)) ++ (⟨#[99]⟩ : ByteArray)) := by
  refine (seco_l0 l hl hw l.length 0 k (by omega) (by omega)).trans ?_
  obtain ⟨m, e⟩ : ∃ m, k - l.length = m + 1 := ⟨k - l.length - 1, by omega⟩
  have hz := join_size ⟨#[59]⟩ rfl (l.map dig) hw.sizes
  rw [List.length_map] at hz
  rw [e, xansi_SecondaryDeviceAttributes.l0, if_neg (by omega), joined' _ ⟨#[59]⟩ (by rw [List.length_map]; omega) hw.sizes rfl m (by omega), Option.bind_some, if_pos (by omega), if_pos (by omega)]


/-- A number told, or naught where it is below. -/
def dz (x : Int) : ByteArray := dig (mx x 0)
theorem mx_in (x c : Int) (h : -9223372036854775808 ≤ x ∧ x ≤ 9223372036854775807) (h0 : 0 ≤ c) (hc : c ≤ 10) : -9223372036854775808 ≤ mx x c ∧ mx x c ≤ 9223372036854775807 := by unfold mx; split <;> omega

theorem parts_l0 (sep : List S109) (l : List Int) (hl : l.length ≤ 100) (hw : In l) : ∀ n i k, i + n = l.length → n + 40 ≤ k → spec_StyleParts.l0 k sep ((l.take i).map dz) l (l.length : Int) (i : Int) = spec_StyleParts.l0 (k - n) sep (l.map dz) l (l.length : Int) (l.length : Int) := by
  intro n
  induction n with
  | zero =>
    intro i k hi hk
    rw [List.take_of_length_le (by omega)]
    obtain rfl : i = l.length := by omega
    rfl
  | succ n ih =>
    intro i k hi hk
    obtain ⟨k, rfl⟩ : ∃ m, k = m + 1 := ⟨k - 1, by omega⟩
    have hlt : i < l.length := by omega
    have hx := hw.at i hlt
    have ht : ((l.take i).map dz).length < 8796093022208 := by rw [List.length_map, List.length_take]; omega
    rw [spec_StyleParts.l0, rd_at l i hlt, if_pos (by omega), if_pos (by omega), if_pos (by omega), digits _ (mx_in l[i] 0 hx (by omega) (by omega)).1 (mx_in l[i] 0 hx (by omega) (by omega)).2 k (by omega), Option.bind_some, show dig (mx l[i] 0) = dz l[i] from rfl, if_pos ht, wi i (by omega),
      show (l.take i).map dz ++ [dz l[i]] = (l.take (i + 1)).map dz by rw [take_one l i hlt, List.map_append]; rfl, ih (i + 1) k (by omega) (by omega),
      show k + 1 - (n + 1) = k - n by omega]

theorem attr (a : Int) : ∃ s b, xansi_attrStrings.f a = some (s, b) ∧ (b = true → s = dig a ∧ 0 ≤ a) := by
  by_cases h0 : a = 0
  · subst h0
    refine ⟨⟨#[48]⟩, true, by rfl, fun _ => ⟨?_, by decide⟩⟩
    show (⟨#[48]⟩ : ByteArray) = ⟨(Lib.itoa 0).toArray⟩
    rw [show Lib.itoa 0 = [48] from by decide +kernel]
  by_cases h1 : a = 1
  · subst h1
    refine ⟨⟨#[49]⟩, true, by rfl, fun _ => ⟨?_, by decide⟩⟩
    show (⟨#[49]⟩ : ByteArray) = ⟨(Lib.itoa 1).toArray⟩
    rw [show Lib.itoa 1 = [49] from by decide +kernel]
  by_cases h2 : a = 2
  · subst h2
    refine ⟨⟨#[50]⟩, true, by rfl, fun _ => ⟨?_, by decide⟩⟩
    show (⟨#[50]⟩ : ByteArray) = ⟨(Lib.itoa 2).toArray⟩
    rw [show Lib.itoa 2 = [50] from by decide +kernel]
  by_cases h3 : a = 3
  · subst h3
    refine ⟨⟨#[51]⟩, true, by rfl, fun _ => ⟨?_, by decide⟩⟩
    show (⟨#[51]⟩ : ByteArray) = ⟨(Lib.itoa 3).toArray⟩
    rw [show Lib.itoa 3 = [51] from by decide +kernel]
  by_cases h4 : a = 4
  · subst h4
    refine ⟨⟨#[52]⟩, true, by rfl, fun _ => ⟨?_, by decide⟩⟩
    show (⟨#[52]⟩ : ByteArray) = ⟨(Lib.itoa 4).toArray⟩
    rw [show Lib.itoa 4 = [52] from by decide +kernel]
  by_cases h5 : a = 5
  · subst h5
    refine ⟨⟨#[53]⟩, true, by rfl, fun _ => ⟨?_, by decide⟩⟩
    show (⟨#[53]⟩ : ByteArray) = ⟨(Lib.itoa 5).toArray⟩
    rw [show Lib.itoa 5 = [53] from by decide +kernel]
  by_cases h6 : a = 6
  · subst h6
    refine ⟨⟨#[54]⟩, true, by rfl, fun _ => ⟨?_, by decide⟩⟩
    show (⟨#[54]⟩ : ByteArray) = ⟨(Lib.itoa 6).toArray⟩
    rw [show Lib.itoa 6 = [54] from by decide +kernel]
  by_cases h7 : a = 7
  · subst h7
    refine ⟨⟨#[55]⟩, true, by rfl, fun _ => ⟨?_, by decide⟩⟩
    show (⟨#[55]⟩ : ByteArray) = ⟨(Lib.itoa 7).toArray⟩
    rw [show Lib.itoa 7 = [55] from by decide +kernel]
  by_cases h8 : a = 8
  · subst h8
    refine ⟨⟨#[56]⟩, true, by rfl, fun _ => ⟨?_, by decide⟩⟩
    show (⟨#[56]⟩ : ByteArray) = ⟨(Lib.itoa 8).toArray⟩
    rw [show Lib.itoa 8 = [56] from by decide +kernel]
  by_cases h9 : a = 9
  · subst h9
    refine ⟨⟨#[57]⟩, true, by rfl, fun _ => ⟨?_, by decide⟩⟩
    show (⟨#[57]⟩ : ByteArray) = ⟨(Lib.itoa 9).toArray⟩
    rw [show Lib.itoa 9 = [57] from by decide +kernel]
  by_cases h22 : a = 22
  · subst h22
    refine ⟨⟨#[50, 50]⟩, true, by rfl, fun _ => ⟨?_, by decide⟩⟩
    show (⟨#[50, 50]⟩ : ByteArray) = ⟨(Lib.itoa 22).toArray⟩
    rw [show Lib.itoa 22 = [50, 50] from by decide +kernel]
  by_cases h23 : a = 23
  · subst h23
    refine ⟨⟨#[50, 51]⟩, true, by rfl, fun _ => ⟨?_, by decide⟩⟩
    show (⟨#[50, 51]⟩ : ByteArray) = ⟨(Lib.itoa 23).toArray⟩
    rw [show Lib.itoa 23 = [50, 51] from by decide +kernel]
  by_cases h24 : a = 24
  · subst h24
    refine ⟨⟨#[50, 52]⟩, true, by rfl, fun _ => ⟨?_, by decide⟩⟩
    show (⟨#[50, 52]⟩ : ByteArray) = ⟨(Lib.itoa 24).toArray⟩
    rw [show Lib.itoa 24 = [50, 52] from by decide +kernel]
  by_cases h25 : a = 25
  · subst h25
    refine ⟨⟨#[50, 53]⟩, true, by rfl, fun _ => ⟨?_, by decide⟩⟩
    show (⟨#[50, 53]⟩ : ByteArray) = ⟨(Lib.itoa 25).toArray⟩
    rw [show Lib.itoa 25 = [50, 53] from by decide +kernel]
  by_cases h27 : a = 27
  · subst h27
    refine ⟨⟨#[50, 55]⟩, true, by rfl, fun _ => ⟨?_, by decide⟩⟩
    show (⟨#[50, 55]⟩ : ByteArray) = ⟨(Lib.itoa 27).toArray⟩
    rw [show Lib.itoa 27 = [50, 55] from by decide +kernel]
  by_cases h28 : a = 28
  · subst h28
    refine ⟨⟨#[50, 56]⟩, true, by rfl, fun _ => ⟨?_, by decide⟩⟩
    show (⟨#[50, 56]⟩ : ByteArray) = ⟨(Lib.itoa 28).toArray⟩
    rw [show Lib.itoa 28 = [50, 56] from by decide +kernel]
  by_cases h29 : a = 29
  · subst h29
    refine ⟨⟨#[50, 57]⟩, true, by rfl, fun _ => ⟨?_, by decide⟩⟩
    show (⟨#[50, 57]⟩ : ByteArray) = ⟨(Lib.itoa 29).toArray⟩
    rw [show Lib.itoa 29 = [50, 57] from by decide +kernel]
  by_cases h30 : a = 30
  · subst h30
    refine ⟨⟨#[51, 48]⟩, true, by rfl, fun _ => ⟨?_, by decide⟩⟩
    show (⟨#[51, 48]⟩ : ByteArray) = ⟨(Lib.itoa 30).toArray⟩
    rw [show Lib.itoa 30 = [51, 48] from by decide +kernel]
  by_cases h31 : a = 31
  · subst h31
    refine ⟨⟨#[51, 49]⟩, true, by rfl, fun _ => ⟨?_, by decide⟩⟩
    show (⟨#[51, 49]⟩ : ByteArray) = ⟨(Lib.itoa 31).toArray⟩
    rw [show Lib.itoa 31 = [51, 49] from by decide +kernel]
  by_cases h32 : a = 32
  · subst h32
    refine ⟨⟨#[51, 50]⟩, true, by rfl, fun _ => ⟨?_, by decide⟩⟩
    show (⟨#[51, 50]⟩ : ByteArray) = ⟨(Lib.itoa 32).toArray⟩
    rw [show Lib.itoa 32 = [51, 50] from by decide +kernel]
  by_cases h33 : a = 33
  · subst h33
    refine ⟨⟨#[51, 51]⟩, true, by rfl, fun _ => ⟨?_, by decide⟩⟩
    show (⟨#[51, 51]⟩ : ByteArray) = ⟨(Lib.itoa 33).toArray⟩
    rw [show Lib.itoa 33 = [51, 51] from by decide +kernel]
  by_cases h34 : a = 34
  · subst h34
    refine ⟨⟨#[51, 52]⟩, true, by rfl, fun _ => ⟨?_, by decide⟩⟩
    show (⟨#[51, 52]⟩ : ByteArray) = ⟨(Lib.itoa 34).toArray⟩
    rw [show Lib.itoa 34 = [51, 52] from by decide +kernel]
  by_cases h35 : a = 35
  · subst h35
    refine ⟨⟨#[51, 53]⟩, true, by rfl, fun _ => ⟨?_, by decide⟩⟩
    show (⟨#[51, 53]⟩ : ByteArray) = ⟨(Lib.itoa 35).toArray⟩
    rw [show Lib.itoa 35 = [51, 53] from by decide +kernel]
  by_cases h36 : a = 36
  · subst h36
    refine ⟨⟨#[51, 54]⟩, true, by rfl, fun _ => ⟨?_, by decide⟩⟩
    show (⟨#[51, 54]⟩ : ByteArray) = ⟨(Lib.itoa 36).toArray⟩
    rw [show Lib.itoa 36 = [51, 54] from by decide +kernel]
  by_cases h37 : a = 37
  · subst h37
    refine ⟨⟨#[51, 55]⟩, true, by rfl, fun _ => ⟨?_, by decide⟩⟩
    show (⟨#[51, 55]⟩ : ByteArray) = ⟨(Lib.itoa 37).toArray⟩
    rw [show Lib.itoa 37 = [51, 55] from by decide +kernel]
  by_cases h38 : a = 38
  · subst h38
    refine ⟨⟨#[51, 56]⟩, true, by rfl, fun _ => ⟨?_, by decide⟩⟩
    show (⟨#[51, 56]⟩ : ByteArray) = ⟨(Lib.itoa 38).toArray⟩
    rw [show Lib.itoa 38 = [51, 56] from by decide +kernel]
  by_cases h39 : a = 39
  · subst h39
    refine ⟨⟨#[51, 57]⟩, true, by rfl, fun _ => ⟨?_, by decide⟩⟩
    show (⟨#[51, 57]⟩ : ByteArray) = ⟨(Lib.itoa 39).toArray⟩
    rw [show Lib.itoa 39 = [51, 57] from by decide +kernel]
  by_cases h40 : a = 40
  · subst h40
    refine ⟨⟨#[52, 48]⟩, true, by rfl, fun _ => ⟨?_, by decide⟩⟩
    show (⟨#[52, 48]⟩ : ByteArray) = ⟨(Lib.itoa 40).toArray⟩
    rw [show Lib.itoa 40 = [52, 48] from by decide +kernel]
  by_cases h41 : a = 41
  · subst h41
    refine ⟨⟨#[52, 49]⟩, true, by rfl, fun _ => ⟨?_, by decide⟩⟩
    show (⟨#[52, 49]⟩ : ByteArray) = ⟨(Lib.itoa 41).toArray⟩
    rw [show Lib.itoa 41 = [52, 49] from by decide +kernel]
  by_cases h42 : a = 42
  · subst h42
    refine ⟨⟨#[52, 50]⟩, true, by rfl, fun _ => ⟨?_, by decide⟩⟩
    show (⟨#[52, 50]⟩ : ByteArray) = ⟨(Lib.itoa 42).toArray⟩
    rw [show Lib.itoa 42 = [52, 50] from by decide +kernel]
  by_cases h43 : a = 43
  · subst h43
    refine ⟨⟨#[52, 51]⟩, true, by rfl, fun _ => ⟨?_, by decide⟩⟩
    show (⟨#[52, 51]⟩ : ByteArray) = ⟨(Lib.itoa 43).toArray⟩
    rw [show Lib.itoa 43 = [52, 51] from by decide +kernel]
  by_cases h44 : a = 44
  · subst h44
    refine ⟨⟨#[52, 52]⟩, true, by rfl, fun _ => ⟨?_, by decide⟩⟩
    show (⟨#[52, 52]⟩ : ByteArray) = ⟨(Lib.itoa 44).toArray⟩
    rw [show Lib.itoa 44 = [52, 52] from by decide +kernel]
  by_cases h45 : a = 45
  · subst h45
    refine ⟨⟨#[52, 53]⟩, true, by rfl, fun _ => ⟨?_, by decide⟩⟩
    show (⟨#[52, 53]⟩ : ByteArray) = ⟨(Lib.itoa 45).toArray⟩
    rw [show Lib.itoa 45 = [52, 53] from by decide +kernel]
  by_cases h46 : a = 46
  · subst h46
    refine ⟨⟨#[52, 54]⟩, true, by rfl, fun _ => ⟨?_, by decide⟩⟩
    show (⟨#[52, 54]⟩ : ByteArray) = ⟨(Lib.itoa 46).toArray⟩
    rw [show Lib.itoa 46 = [52, 54] from by decide +kernel]
  by_cases h47 : a = 47
  · subst h47
    refine ⟨⟨#[52, 55]⟩, true, by rfl, fun _ => ⟨?_, by decide⟩⟩
    show (⟨#[52, 55]⟩ : ByteArray) = ⟨(Lib.itoa 47).toArray⟩
    rw [show Lib.itoa 47 = [52, 55] from by decide +kernel]
  by_cases h48 : a = 48
  · subst h48
    refine ⟨⟨#[52, 56]⟩, true, by rfl, fun _ => ⟨?_, by decide⟩⟩
    show (⟨#[52, 56]⟩ : ByteArray) = ⟨(Lib.itoa 48).toArray⟩
    rw [show Lib.itoa 48 = [52, 56] from by decide +kernel]
  by_cases h49 : a = 49
  · subst h49
    refine ⟨⟨#[52, 57]⟩, true, by rfl, fun _ => ⟨?_, by decide⟩⟩
    show (⟨#[52, 57]⟩ : ByteArray) = ⟨(Lib.itoa 49).toArray⟩
    rw [show Lib.itoa 49 = [52, 57] from by decide +kernel]
  by_cases h58 : a = 58
  · subst h58
    refine ⟨⟨#[53, 56]⟩, true, by rfl, fun _ => ⟨?_, by decide⟩⟩
    show (⟨#[53, 56]⟩ : ByteArray) = ⟨(Lib.itoa 58).toArray⟩
    rw [show Lib.itoa 58 = [53, 56] from by decide +kernel]
  by_cases h59 : a = 59
  · subst h59
    refine ⟨⟨#[53, 57]⟩, true, by rfl, fun _ => ⟨?_, by decide⟩⟩
    show (⟨#[53, 57]⟩ : ByteArray) = ⟨(Lib.itoa 59).toArray⟩
    rw [show Lib.itoa 59 = [53, 57] from by decide +kernel]
  by_cases h90 : a = 90
  · subst h90
    refine ⟨⟨#[57, 48]⟩, true, by rfl, fun _ => ⟨?_, by decide⟩⟩
    show (⟨#[57, 48]⟩ : ByteArray) = ⟨(Lib.itoa 90).toArray⟩
    rw [show Lib.itoa 90 = [57, 48] from by decide +kernel]
  by_cases h91 : a = 91
  · subst h91
    refine ⟨⟨#[57, 49]⟩, true, by rfl, fun _ => ⟨?_, by decide⟩⟩
    show (⟨#[57, 49]⟩ : ByteArray) = ⟨(Lib.itoa 91).toArray⟩
    rw [show Lib.itoa 91 = [57, 49] from by decide +kernel]
  by_cases h92 : a = 92
  · subst h92
    refine ⟨⟨#[57, 50]⟩, true, by rfl, fun _ => ⟨?_, by decide⟩⟩
    show (⟨#[57, 50]⟩ : ByteArray) = ⟨(Lib.itoa 92).toArray⟩
    rw [show Lib.itoa 92 = [57, 50] from by decide +kernel]
  by_cases h93 : a = 93
  · subst h93
    refine ⟨⟨#[57, 51]⟩, true, by rfl, fun _ => ⟨?_, by decide⟩⟩
    show (⟨#[57, 51]⟩ : ByteArray) = ⟨(Lib.itoa 93).toArray⟩
    rw [show Lib.itoa 93 = [57, 51] from by decide +kernel]
  by_cases h94 : a = 94
  · subst h94
    refine ⟨⟨#[57, 52]⟩, true, by rfl, fun _ => ⟨?_, by decide⟩⟩
    show (⟨#[57, 52]⟩ : ByteArray) = ⟨(Lib.itoa 94).toArray⟩
    rw [show Lib.itoa 94 = [57, 52] from by decide +kernel]
  by_cases h95 : a = 95
  · subst h95
    refine ⟨⟨#[57, 53]⟩, true, by rfl, fun _ => ⟨?_, by decide⟩⟩
    show (⟨#[57, 53]⟩ : ByteArray) = ⟨(Lib.itoa 95).toArray⟩
    rw [show Lib.itoa 95 = [57, 53] from by decide +kernel]
  by_cases h96 : a = 96
  · subst h96
    refine ⟨⟨#[57, 54]⟩, true, by rfl, fun _ => ⟨?_, by decide⟩⟩
    show (⟨#[57, 54]⟩ : ByteArray) = ⟨(Lib.itoa 96).toArray⟩
    rw [show Lib.itoa 96 = [57, 54] from by decide +kernel]
  by_cases h97 : a = 97
  · subst h97
    refine ⟨⟨#[57, 55]⟩, true, by rfl, fun _ => ⟨?_, by decide⟩⟩
    show (⟨#[57, 55]⟩ : ByteArray) = ⟨(Lib.itoa 97).toArray⟩
    rw [show Lib.itoa 97 = [57, 55] from by decide +kernel]
  by_cases h100 : a = 100
  · subst h100
    refine ⟨⟨#[49, 48, 48]⟩, true, by rfl, fun _ => ⟨?_, by decide⟩⟩
    show (⟨#[49, 48, 48]⟩ : ByteArray) = ⟨(Lib.itoa 100).toArray⟩
    rw [show Lib.itoa 100 = [49, 48, 48] from by decide +kernel]
  by_cases h101 : a = 101
  · subst h101
    refine ⟨⟨#[49, 48, 49]⟩, true, by rfl, fun _ => ⟨?_, by decide⟩⟩
    show (⟨#[49, 48, 49]⟩ : ByteArray) = ⟨(Lib.itoa 101).toArray⟩
    rw [show Lib.itoa 101 = [49, 48, 49] from by decide +kernel]
  by_cases h102 : a = 102
  · subst h102
    refine ⟨⟨#[49, 48, 50]⟩, true, by rfl, fun _ => ⟨?_, by decide⟩⟩
    show (⟨#[49, 48, 50]⟩ : ByteArray) = ⟨(Lib.itoa 102).toArray⟩
    rw [show Lib.itoa 102 = [49, 48, 50] from by decide +kernel]
  by_cases h103 : a = 103
  · subst h103
    refine ⟨⟨#[49, 48, 51]⟩, true, by rfl, fun _ => ⟨?_, by decide⟩⟩
    show (⟨#[49, 48, 51]⟩ : ByteArray) = ⟨(Lib.itoa 103).toArray⟩
    rw [show Lib.itoa 103 = [49, 48, 51] from by decide +kernel]
  by_cases h104 : a = 104
  · subst h104
    refine ⟨⟨#[49, 48, 52]⟩, true, by rfl, fun _ => ⟨?_, by decide⟩⟩
    show (⟨#[49, 48, 52]⟩ : ByteArray) = ⟨(Lib.itoa 104).toArray⟩
    rw [show Lib.itoa 104 = [49, 48, 52] from by decide +kernel]
  by_cases h105 : a = 105
  · subst h105
    refine ⟨⟨#[49, 48, 53]⟩, true, by rfl, fun _ => ⟨?_, by decide⟩⟩
    show (⟨#[49, 48, 53]⟩ : ByteArray) = ⟨(Lib.itoa 105).toArray⟩
    rw [show Lib.itoa 105 = [49, 48, 53] from by decide +kernel]
  by_cases h106 : a = 106
  · subst h106
    refine ⟨⟨#[49, 48, 54]⟩, true, by rfl, fun _ => ⟨?_, by decide⟩⟩
    show (⟨#[49, 48, 54]⟩ : ByteArray) = ⟨(Lib.itoa 106).toArray⟩
    rw [show Lib.itoa 106 = [49, 48, 54] from by decide +kernel]
  by_cases h107 : a = 107
  · subst h107
    refine ⟨⟨#[49, 48, 55]⟩, true, by rfl, fun _ => ⟨?_, by decide⟩⟩
    show (⟨#[49, 48, 55]⟩ : ByteArray) = ⟨(Lib.itoa 107).toArray⟩
    rw [show Lib.itoa 107 = [49, 48, 55] from by decide +kernel]
  refine ⟨⟨#[]⟩, false, ?_, fun h => by simp at h⟩
  unfold xansi_attrStrings.f
  rw [if_neg h0, if_neg h1, if_neg h2, if_neg h3, if_neg h4, if_neg h5, if_neg h6, if_neg h7, if_neg h8, if_neg h9, if_neg h22, if_neg h23, if_neg h24, if_neg h25, if_neg h27, if_neg h28, if_neg h29, if_neg h30, if_neg h31, if_neg h32, if_neg h33, if_neg h34, if_neg h35, if_neg h36, if_neg h37, if_neg h38, if_neg h39, if_neg h40, if_neg h41, if_neg h42, if_neg h43, if_neg h44, if_neg h45, if_neg h46, if_neg h47, if_neg h48, if_neg h49, if_neg h58, if_neg h59, if_neg h90, if_neg h91, if_neg h92, if_neg h93, if_neg h94, if_neg h95, if_neg h96, if_neg h97, if_neg h100, if_neg h101, if_neg h102, if_neg h103, if_neg h104, if_neg h105, if_neg h106, if_neg h107]


theorem style_l0 (l : List Int) (hl : l.length ≤ 100) (hw : In l) : ∀ n i k, i + n = l.length → n < k → xansi_NewStyle.l0 k ((l.take i).map dz) l (l.length : Int) (i : Int) = some (l.map dz) := by
  intro n
  induction n with
  | zero =>
    intro i k hi hk
    obtain ⟨k, rfl⟩ : ∃ m, k = m + 1 := ⟨k - 1, by omega⟩
    rw [xansi_NewStyle.l0, if_neg (by omega), List.take_of_length_le (by omega)]
  | succ n ih =>
    intro i k hi hk
    obtain ⟨k, rfl⟩ : ∃ m, k = m + 1 := ⟨k - 1, by omega⟩
    have hlt : i < l.length := by omega
    have hx := hw.at i hlt
    have ht : ((l.take i).map dz).length < 8796093022208 := by rw [List.length_map, List.length_take]; omega
    have hgo : xansi_NewStyle.l0 k ((l.take i).map dz ++ [dz l[i]]) l (l.length : Int) (wrap64 ((i : Int) + 1)) = some (l.map dz) := by
      rw [wi i (by omega), show (l.take i).map dz ++ [dz l[i]] = (l.take (i + 1)).map dz by rw [take_one l i hlt, List.map_append]; rfl]
      exact ih (i + 1) k (by omega) (by omega)
    obtain ⟨s, b, ea, hb⟩ := attr l[i]
    rw [xansi_NewStyle.l0, rd_at l i hlt, if_pos (by omega), if_pos (by omega), if_pos (by omega), ea, Option.bind_some]
    by_cases hbt : b = true
    · obtain ⟨rfl, hge⟩ := hb hbt
      rw [if_pos hbt, if_pos ht, show dig l[i] = dz l[i] by unfold dz mx; rw [if_neg (by omega)]]
      exact hgo
    · rw [if_neg hbt]
      by_cases hneg : l[i] < 0
      · rw [if_pos hneg, itoa_f 0 (by omega) (by omega), Option.bind_some, if_pos ht, show dig 0 = dz l[i] by unfold dz mx; rw [if_pos hneg]]
        exact hgo
      · rw [if_neg hneg, itoa_f l[i] hx.1 hx.2, Option.bind_some, if_pos ht, show dig l[i] = dz l[i] by unfold dz mx; rw [if_neg hneg]]
        exact hgo
theorem dz_sizes {l : List Int} (h : In l) : ∀ s ∈ l.map dz, s.size ≤ 21 := by
  intro s hs
  obtain ⟨x, hx, rfl⟩ := List.mem_map.1 hs
  exact dig_size _ (mx_in x 0 (h x hx) (by omega) (by omega)).1 (mx_in x 0 (h x hx) (by omega) (by omega)).2

/-- The list's window report: what is below naught is left out. -/
def wl (l : List Int) : List ByteArray := (l.filter (fun x => decide (x ≥ 0))).map dig
theorem wl_one (l : List Int) (i : Nat) (h : i < l.length) : wl (l.take (i + 1)) = if l[i] ≥ 0 then wl (l.take i) ++ [dig l[i]] else wl (l.take i) := by
  rw [take_one l i h]
  unfold wl
  rw [List.filter_append, List.map_append]
  by_cases hp : l[i] ≥ 0
  · rw [if_pos hp, List.filter_cons_of_pos (by simpa using hp)]; rfl
  · rw [if_neg hp, List.filter_cons_of_neg (by simpa using hp)]; simp
theorem wl_len (l : List Int) (i : Nat) : (wl (l.take i)).length ≤ l.length := by
  unfold wl
  rw [List.length_map]
  exact Nat.le_trans (List.length_filter_le _ _) (by rw [List.length_take]; omega)
theorem wl_sizes {l : List Int} (h : In l) : ∀ s ∈ wl l, s.size ≤ 21 := by
  intro s hs
  obtain ⟨x, hx, rfl⟩ := List.mem_map.1 hs
  have hx := h x (List.mem_filter.1 hx).1
  exact dig_size x hx.1 hx.2
theorem wind_l0 (d : ByteArray) (l : List Int) (hl : l.length ≤ 100) (hw : In l) : ∀ n i k, i + n = l.length → n + 40 ≤ k → xansi_WindowOp.l0 k (d :: wl (l.take i)) l (l.length : Int) (i : Int) = xansi_WindowOp.l0 (k - n) (d :: wl l) l (l.length : Int) (l.length : Int) := by
  intro n
  induction n with
  | zero =>
    intro i k hi hk
    rw [List.take_of_length_le (by omega)]
    obtain rfl : i = l.length := by omega
    rfl
  | succ n ih =>
    intro i k hi hk
    obtain ⟨k, rfl⟩ : ∃ m, k = m + 1 := ⟨k - 1, by omega⟩
    have hlt : i < l.length := by omega
    have hx := hw.at i hlt
    have h1 := wl_len l i
    have ht : (d :: wl (l.take i)).length < 8796093022208 := by rw [List.length_cons]; omega
    have hg := ih (i + 1) k (by omega) (by omega)
    rw [wl_one l i hlt] at hg
    rw [xansi_WindowOp.l0, rd_at l i hlt, if_pos (by omega), if_pos (by omega), if_pos (by omega), wi i (by omega), show k + 1 - (n + 1) = k - n by omega, ← hg]
    by_cases hp : l[i] ≥ 0
    · rw [if_pos hp, if_pos hp, itoa_f l[i] hx.1 hx.2, Option.bind_some, if_pos ht]; rfl
    · rw [if_neg hp, if_neg hp]
theorem wind_end (d : ByteArray) (hd : d.size ≤ 21) (l : List Int) (hl : l.length ≤ 100) (hw : In l) (k : Nat) (hk : 400 ≤ k) : xansi_WindowOp.l0 k [d] l (l.length : Int) 0 = some (((⟨#[27, 91]⟩ : ByteArray) ++ jn ⟨#[59]⟩ d (wl l)) ++ (⟨#[116]⟩ : ByteArray)) := by
  refine (wind_l0 d l hl hw l.length 0 k (by omega) (by omega)).trans ?_
  obtain ⟨m, e⟩ : ∃ m, k - l.length = m + 1 := ⟨k - l.length - 1, by omega⟩
  have h1 := wl_len l l.length
  rw [List.take_length] at h1
  have hsz : ∀ s ∈ d :: wl l, s.size ≤ 21 := by
    intro s hs
    rcases List.mem_cons.1 hs with rfl | hs
    · exact hd
    · exact wl_sizes hw s hs
  have hz := join_size ⟨#[59]⟩ rfl (d :: wl l) hsz
  rw [List.length_cons] at hz
  rw [e, xansi_WindowOp.l0, if_neg (by omega), joined' _ ⟨#[59]⟩ (by rw [List.length_cons]; omega) hsz rfl m (by omega), Option.bind_some, if_pos (by omega), if_pos (by omega)]
  rfl
theorem made_l0 (l : List Int) (hl : l.length ≤ 100) (hw : In l) : ∀ n i acc k, i + n = l.length → acc.size ≤ 22 * i + 50 → n + 40 ≤ k → spec_MadeList.l0 k acc l (l.length : Int) (i : Int) = some (jn ⟨#[59]⟩ acc (wl (l.drop i)) ++ ⟨#[116]⟩) := by
  intro n
  induction n with
  | zero =>
    intro i acc k hi ha hk
    obtain ⟨k, rfl⟩ : ∃ m, k = m + 1 := ⟨k - 1, by omega⟩
    rw [spec_MadeList.l0, if_neg (by omega), List.drop_of_length_le (by omega), if_pos (by omega)]
    rfl
  | succ n ih =>
    intro i acc k hi ha hk
    obtain ⟨k, rfl⟩ : ∃ m, k = m + 1 := ⟨k - 1, by omega⟩
    have hlt : i < l.length := by omega
    have hx := hw.at i hlt
    have sx := dig_size l[i] hx.1 hx.2
    rw [spec_MadeList.l0, rd_at l i hlt, if_pos (by omega), if_pos (by omega), if_pos (by omega), wi i (by omega)]
    rw [List.drop_eq_getElem_cons hlt]
    by_cases hp : l[i] ≥ 0
    · rw [if_pos hp, digits l[i] hx.1 hx.2 k (by omega), Option.bind_some, if_pos (by omega), if_pos (by omega), ih (i + 1) _ k (by omega) (by simp only [ByteArray.size_append, z1]; omega) (by omega)]
      unfold wl
      rw [List.filter_cons_of_pos (by simpa using hp), List.map_cons, ← ByteArray.append_assoc]
      rfl
    · rw [if_neg hp, ih (i + 1) _ k (by omega) (by omega) (by omega)]
      unfold wl
      rw [List.filter_cons_of_neg (by simpa using hp)]


theorem size_l1 (l : List Int) (hl : l.length ≤ 100) (hw : In l) : ∀ n i acc k, i + n = l.length → acc.size ≤ 22 * i + 50 → n + 40 ≤ k → spec_MadeList.l1 k acc l (l.length : Int) (i : Int) = some (jn ⟨#[59]⟩ acc ((l.drop i).map dz) ++ ⟨#[116]⟩) := by
  intro n
  induction n with
  | zero =>
    intro i acc k hi ha hk
    obtain ⟨k, rfl⟩ : ∃ m, k = m + 1 := ⟨k - 1, by omega⟩
    rw [spec_MadeList.l1, if_neg (by omega), List.drop_of_length_le (by omega), if_pos (by omega)]
    rfl
  | succ n ih =>
    intro i acc k hi ha hk
    obtain ⟨k, rfl⟩ : ∃ m, k = m + 1 := ⟨k - 1, by omega⟩
    have hlt : i < l.length := by omega
    have hx := mx_in l[i] 0 (hw.at i hlt) (by omega) (by omega)
    have sx := dig_size _ hx.1 hx.2
    rw [spec_MadeList.l1, rd_at l i hlt, if_pos (by omega), if_pos (by omega), if_pos (by omega), wi i (by omega)]
    rw [List.drop_eq_getElem_cons hlt]
    rw [digits _ hx.1 hx.2 k (by omega), Option.bind_some, if_pos (by omega), if_pos (by omega), ih (i + 1) _ k (by omega) (by simp only [ByteArray.size_append, z1]; omega) (by omega), List.map_cons, ← ByteArray.append_assoc]
    rfl


/-! ### the nine functions -/
def Same (c : Int) (l : List Int) : Prop := ∃ r, impl_MakeList.f 500 c l = some r ∧ spec_MadeList.f 500 c l = some r

theorem m0 (l : List Int) (hl : l.length ≤ 100) (hw : In l) : Same 0 l := by
  have hz := join_size ⟨#[59]⟩ rfl (l.map dig) hw.sizes
  rw [List.length_map] at hz
  have hn := numbers l ⟨#[59]⟩ hl hw rfl 500 (by omega)
  unfold Same impl_MakeList.f spec_MadeList.f
  rw [count l hl 500 (by omega), Option.bind_some, if_pos rfl, if_pos rfl, hn]
  have j : xansi_PrimaryDeviceAttributes.j0 500 l = some (((⟨#[27, 91, 63]⟩ : ByteArray) ++ join ⟨#[59]⟩ (l.map dig)) ++ (⟨#[99]⟩ : ByteArray)) := by
    simp only [xansi_PrimaryDeviceAttributes.j0]
    rw [if_pos (by omega), if_pos (by omega), Int.toNat_natCast]
    exact prim_end l hl hw 499 (by omega)
  unfold xansi_PrimaryDeviceAttributes.f
  rw [j]
  by_cases h0 : (l.length : Int) = 0
  · simp only [if_pos h0, Option.bind_some]; exact ⟨_, rfl, rfl⟩
  by_cases h1 : (l.length : Int) = 1
  · simp only [if_neg h0, if_pos h1, if_pos (show (0 : Int) < (l.length : Int) by omega), Option.bind_some]
    by_cases h2 : rd l 0 = 0
    · simp only [if_pos h2, Option.bind_some]; exact ⟨_, rfl, rfl⟩
    · simp only [if_neg h2, Option.bind_some]
      exact ⟨_, rfl, by rw [if_pos (by omega), if_pos (by omega)]⟩
  · simp only [if_neg h0, if_neg h1, Option.bind_some]
    exact ⟨_, rfl, by rw [if_pos (by omega), if_pos (by omega)]⟩

theorem m1 (l : List Int) (hl : l.length ≤ 100) (hw : In l) : Same 1 l := by
  have hz := join_size ⟨#[59]⟩ rfl (l.map dig) hw.sizes
  rw [List.length_map] at hz
  have hn := numbers l ⟨#[59]⟩ hl hw rfl 500 (by omega)
  unfold Same impl_MakeList.f spec_MadeList.f
  rw [count l hl 500 (by omega), Option.bind_some, if_neg (by omega), if_pos rfl, if_neg (by omega), if_pos rfl, hn]
  unfold xansi_SecondaryDeviceAttributes.f
  by_cases h0 : (l.length : Int) = 0
  · obtain rfl : l = [] := List.eq_nil_of_length_eq_zero (by omega)
    exact ⟨_, rfl, by rw [Option.bind_some, if_pos (by omega), if_pos (by omega)]; rfl⟩
  · rw [if_neg h0, if_pos (by omega), if_pos (by omega), Int.toNat_natCast, seco_end l hl hw 500 (by omega)]
    exact ⟨_, rfl, by rw [Option.bind_some, if_pos (by omega), if_pos (by omega)]⟩

theorem m2 (l : List Int) (hl : l.length ≤ 100) (hw : In l) : Same 2 l := by
  have hz := join_size ⟨#[59]⟩ rfl (l.map dig) hw.sizes
  rw [List.length_map] at hz
  unfold Same impl_MakeList.f spec_MadeList.f
  rw [count l hl 500 (by omega), Option.bind_some, if_neg (by omega), if_neg (by omega), if_pos rfl, if_neg (by omega), if_neg (by omega), if_pos rfl, numbers l ⟨#[59]⟩ hl hw rfl 500 (by omega), info l hl hw 500 (by omega)]
  exact ⟨_, rfl, by rw [Option.bind_some, if_pos (by omega), if_pos (by omega)]⟩

theorem m3 (l : List Int) (hl : l.length ≤ 100) (hw : In l) : Same 3 l := by
  have hz := join_size ⟨#[47]⟩ rfl (l.map dig) hw.sizes
  rw [List.length_map] at hz
  unfold Same impl_MakeList.f spec_MadeList.f
  rw [count l hl 500 (by omega), Option.bind_some, if_neg (by omega), if_neg (by omega), if_neg (by omega), if_pos rfl, if_neg (by omega), if_neg (by omega), if_neg (by omega), if_pos rfl, numbers l ⟨#[47]⟩ hl hw rfl 500 (by omega), tabs l hl hw 500 (by omega)]
  exact ⟨_, rfl, by rw [Option.bind_some, if_pos (by omega), if_pos (by omega)]⟩

theorem m4 (l : List Int) (hl : l.length ≤ 100) (hw : In l) : Same 4 l := by
  have hz := join_size ⟨#[59]⟩ rfl (l.map dz) (dz_sizes hw)
  rw [List.length_map] at hz
  have hp : spec_StyleParts.f 500 l ([] : List S109) = some (l.map dz) := by
    unfold spec_StyleParts.f
    refine (parts_l0 [] l hl hw l.length 0 500 (by omega) (by omega)).trans ?_
    obtain ⟨m, e⟩ : ∃ m, 500 - l.length = m + 2 := ⟨500 - l.length - 2, by omega⟩
    rw [e, spec_StyleParts.l0, if_neg (by omega), spec_StyleParts.l1, if_neg (by simp)]
  have ht : spec_StyleText.f 500 (l.map dz) = some (((⟨#[27, 91]⟩ : ByteArray) ++ join ⟨#[59]⟩ (l.map dz)) ++ (⟨#[109]⟩ : ByteArray)) := by
    unfold spec_StyleText.f
    rw [joined _ ⟨#[59]⟩ (by rw [List.length_map]; omega) (dz_sizes hw) rfl 500 (by omega), Option.bind_some, if_pos (by omega), if_pos (by omega)]
  unfold Same impl_MakeList.f spec_MadeList.f
  rw [count l hl 500 (by omega), Option.bind_some, if_neg (by omega), if_neg (by omega), if_neg (by omega), if_neg (by omega), if_pos rfl, if_neg (by omega), if_neg (by omega), if_neg (by omega), if_neg (by omega), if_pos rfl, hp, Option.bind_some, ht]
  unfold xansi_SelectGraphicRendition.f
  by_cases h0 : (l.length : Int) = 0
  · obtain rfl : l = [] := List.eq_nil_of_length_eq_zero (by omega)
    exact ⟨_, rfl, rfl⟩
  · have hs : xansi_NewStyle.f 500 l = some (l.map dz) := by
      unfold xansi_NewStyle.f
      rw [if_neg h0, if_pos (by omega), if_pos (by omega)]
      exact style_l0 l hl hw l.length 0 500 (by omega) (by omega)
    unfold xansi_Style_String.f
    rw [if_neg h0, hs, Option.bind_some, if_neg (by rw [List.length_map]; omega), joined' _ ⟨#[59]⟩ (by rw [List.length_map]; omega) (dz_sizes hw) rfl 500 (by omega), Option.bind_some, if_pos (by omega), if_pos (by omega)]
    exact ⟨_, rfl, rfl⟩

theorem m5 (x : Int) (xs : List Int) (hl : (x :: xs).length ≤ 100) (hw : In (x :: xs)) : Same 5 (x :: xs) := by
  have hx := hw x List.mem_cons_self
  have sx := dig_size x hx.1 hx.2
  have hlen : (x :: xs).length = xs.length + 1 := rfl
  have hr : rd (x :: xs) 0 = x := rfl
  have hd : (x :: xs).drop 1 = xs := rfl
  unfold Same impl_MakeList.f spec_MadeList.f
  rw [count _ hl 500 (by omega), Option.bind_some, if_neg (by omega), if_neg (by omega), if_neg (by omega), if_neg (by omega), if_neg (by omega), if_pos rfl, if_neg (by omega), if_neg (by omega), if_neg (by omega), if_neg (by omega), if_neg (by omega), if_pos rfl, decide_eq_true (by omega), if_pos (by omega), hr, hd]
  simp only [impl_MakeList.j0, if_true]
  rw [if_pos (by omega), if_pos (by omega), hr, hd]
  unfold xansi_WindowOp.f
  by_cases h0 : x ≤ 0
  · rw [if_pos h0, if_pos h0]; exact ⟨_, rfl, rfl⟩
  have hm : spec_MadeList.l0 500 ((⟨#[27, 91]⟩ : ByteArray) ++ dig x) xs (xs.length : Int) 0 = some (((⟨#[27, 91]⟩ : ByteArray) ++ jn ⟨#[59]⟩ (dig x) (wl xs)) ++ (⟨#[116]⟩ : ByteArray)) := by
    refine (made_l0 xs (by omega) hw.tail xs.length 0 _ 500 (by omega) (by simp only [ByteArray.size_append, show (⟨#[27, 91]⟩ : ByteArray).size = 2 from rfl]; omega) (by omega)).trans ?_
    rw [List.drop_zero, jn_pre]
  rw [if_neg h0, if_neg h0, digits x hx.1 hx.2 500 (by omega), itoa_f x hx.1 hx.2]
  by_cases h1 : (xs.length : Int) = 0
  · obtain rfl : xs = [] := List.eq_nil_of_length_eq_zero (by omega)
    simp (discharger := omega) only [if_pos h1, if_pos, Option.bind_some, hm]
    exact ⟨_, rfl, rfl⟩
  · have w1 : wrap64 ((xs.length : Int) + 1) = (xs.length : Int) + 1 := by unfold wrap64; omega
    have wn := wind_end (dig x) sx xs (by omega) hw.tail 499 (by omega)
    simp only [Option.bind_some, List.length_nil, List.nil_append]
    simp (discharger := omega) only [if_neg h1, w1, if_pos, if_true, hm, wn, Option.bind_some]
    exact ⟨_, rfl, rfl⟩

theorem m6 (x : Int) (xs : List Int) (hl : (x :: xs).length ≤ 100) (hw : In (x :: xs)) : Same 6 (x :: xs) := by
  have hx := hw x List.mem_cons_self
  have sx := dig_size x hx.1 hx.2
  have hlen : (x :: xs).length = xs.length + 1 := rfl
  have hr : rd (x :: xs) 0 = x := rfl
  have hd : (x :: xs).drop 1 = xs := rfl
  have ix := itoa_f x hx.1 hx.2
  have dx := fun k hk => digits x hx.1 hx.2 k hk
  unfold Same impl_MakeList.f spec_MadeList.f
  rw [count _ hl 500 (by omega), Option.bind_some, if_neg (by omega), if_neg (by omega), if_neg (by omega), if_neg (by omega), if_neg (by omega), if_neg (by omega), if_neg (by omega), if_neg (by omega), if_neg (by omega), if_neg (by omega), if_neg (by omega), if_neg (by omega), if_pos rfl]
  simp only [impl_MakeList.j0, impl_MakeList.j1, if_true, if_false, Bool.false_eq_true]
  rw [decide_eq_true (by omega), if_pos rfl, if_pos (by omega), if_pos (by omega), hr, hd]
  cases xs with
  | nil =>
    have hl1 : ([x] : List Int).length = 1 := rfl
    have hj : ∀ s, xansi_KeyModifierOptions.j0 498 x [] s = some (((⟨#[27, 91, 62]⟩ : ByteArray) ++ dig x) ++ (⟨#[109]⟩ : ByteArray)) := by
      intro s
      simp only [xansi_KeyModifierOptions.j0]
      rw [if_pos (show (([] : List Int).length : Int) = 0 from rfl), ix, Option.bind_some, if_pos (by omega), if_pos (by omega)]
    have hK : xansi_KeyModifierOptions.f 498 x [] = some (((⟨#[27, 91, 62]⟩ : ByteArray) ++ dig x) ++ (⟨#[109]⟩ : ByteArray)) := by
      unfold xansi_KeyModifierOptions.f
      rw [hj, ix]
      by_cases h0 : x > 0
      · rw [if_pos h0, Option.bind_some, hj]
      · rw [if_neg h0]
    have dx5 := dx 500 (by omega)
    simp (discharger := omega) only [hK, dx5, if_pos, Option.bind_some]
    exact ⟨_, rfl, rfl⟩
  | cons y ys =>
    have hy := hw y (by simp)
    have sy := dig_size y hy.1 hy.2
    have iy := itoa_f y hy.1 hy.2
    have dy := digits y hy.1 hy.2 500 (by omega)
    have dx5 := dx 500 (by omega)
    have hlen1 : (y :: ys).length = ys.length + 1 := rfl
    have hlen2 : (x :: y :: ys).length = ys.length + 2 := rfl
    have hr1 : rd (x :: y :: ys) 1 = y := rfl
    have hr2 : rd (y :: ys) 0 = y := rfl
    unfold xansi_KeyModifierOptions.f
    by_cases h0 : x > 0 <;> by_cases h1 : y > 0
    all_goals
      simp (discharger := omega) only [xansi_KeyModifierOptions.j0, spec_madeAbove.f, hr1, hr2, ix, iy, dy, dx5, if_neg, if_pos, Option.bind_some, z0]
      exact ⟨_, rfl, rfl⟩


theorem m7 (l : List Int) (hl : l.length ≤ 100) (hw : In l) : Same 7 l := by
  unfold Same impl_MakeList.f spec_MadeList.f
  rw [count _ hl 500 (by omega), Option.bind_some, if_neg (by omega), if_neg (by omega), if_neg (by omega), if_neg (by omega), if_neg (by omega), if_neg (by omega), if_neg (by omega), if_neg (by omega), if_neg (by omega), if_neg (by omega), if_neg (by omega), if_neg (by omega), if_neg (by omega), if_pos rfl]
  simp only [impl_MakeList.j0, impl_MakeList.j1, impl_MakeList.j2, if_true, if_false, Bool.false_eq_true, Int.reduceEq]
  by_cases h3 : (l.length : Int) = 3
  · match l, h3, hw with
    | [a, b, c], _, hw =>
      have ha := hw a (by simp)
      have hb := hw b (by simp)
      have hc := hw c (by simp)
      have ha1 := mx_in a 1 ha (by omega) (by omega)
      have hb1 := mx_in b 1 hb (by omega) (by omega)
      have sa := dig_size _ ha1.1 ha1.2
      have sb := dig_size _ hb1.1 hb1.2
      have sc := dig_size c hc.1 hc.2
      have ia := itoa_f _ ha1.1 ha1.2
      have ib := itoa_f _ hb1.1 hb1.2
      have ic := itoa_f c hc.1 hc.2
      have da := digits _ ha1.1 ha1.2 500 (by omega)
      have db := digits _ hb1.1 hb1.2 500 (by omega)
      have dc := digits c hc.1 hc.2 500 (by omega)
      have hlen : (([a, b, c] : List Int).length : Int) = 3 := rfl
      have r0 : rd [a, b, c] 0 = a := rfl
      have r1 : rd [a, b, c] 1 = b := rfl
      have r2 : rd [a, b, c] 2 = c := rfl
      have ea : ∀ k, xansi_ExtendedCursorPositionReport.f (k + 1) a b c = xansi_ExtendedCursorPositionReport.j1 k (mx a 1) (mx b 1) c := by
        intro k
        unfold xansi_ExtendedCursorPositionReport.f mx
        by_cases h1 : a < 1 <;> by_cases h2 : b < 1 <;> simp only [xansi_ExtendedCursorPositionReport.j0, if_pos, if_neg, h1, h2, if_true, if_false]
      rw [hlen, r0, r1, r2, da, db, dc, ea 496, show ((3 : Int) == 3) = true from rfl, if_pos rfl]
      simp only [xansi_ExtendedCursorPositionReport.j1, ia, ib, ic]
      by_cases h : c > 0
      · simp (discharger := omega) only [if_pos h, if_neg, if_pos, Option.bind_some]
        exact ⟨_, rfl, by simp only [ByteArray.append_assoc, if_true]⟩
      · simp (discharger := omega) only [if_neg h, if_neg, if_pos, Option.bind_some]
        exact ⟨_, rfl, rfl⟩
  · rw [if_neg h3, show ((l.length : Int) == 3) = false by simpa using h3, if_neg (by decide)]
    exact ⟨_, rfl, rfl⟩

set_option maxHeartbeats 1000000 in
theorem m8 (l : List Int) (hl : l.length ≤ 100) (hw : In l) : Same 8 l := by
  unfold Same impl_MakeList.f spec_MadeList.f
  rw [count _ hl 500 (by omega), Option.bind_some, if_neg (by omega), if_neg (by omega), if_neg (by omega), if_neg (by omega), if_neg (by omega), if_neg (by omega), if_neg (by omega), if_neg (by omega), if_neg (by omega), if_neg (by omega), if_neg (by omega), if_neg (by omega), if_neg (by omega), if_neg (by omega)]
  simp only [impl_MakeList.j0, impl_MakeList.j1, impl_MakeList.j2, if_true, if_false, Bool.false_eq_true, Int.reduceEq]
  by_cases h4 : (l.length : Int) = 4
  · match l, h4, hw with
    | [a, b, c, d], _, hw =>
      have ha := mx_in a 0 (hw a (by simp)) (by omega) (by omega)
      have hb := mx_in b 0 (hw b (by simp)) (by omega) (by omega)
      have hc := mx_in c 0 (hw c (by simp)) (by omega) (by omega)
      have hd := mx_in d 0 (hw d (by simp)) (by omega) (by omega)
      have sa := dig_size _ ha.1 ha.2
      have sb := dig_size _ hb.1 hb.2
      have sc := dig_size _ hc.1 hc.2
      have sd := dig_size _ hd.1 hd.2
      have ia := itoa_f _ ha.1 ha.2
      have ib := itoa_f _ hb.1 hb.2
      have ic := itoa_f _ hc.1 hc.2
      have id_ := itoa_f _ hd.1 hd.2
      have da := fun k hk => digits _ ha.1 ha.2 k hk
      have db := fun k hk => digits _ hb.1 hb.2 k hk
      have dc := fun k hk => digits _ hc.1 hc.2 k hk
      have dd := fun k hk => digits _ hd.1 hd.2 k hk
      have hlen : (([a, b, c, d] : List Int).length : Int) = 4 := rfl
      have r0 : rd [a, b, c, d] 0 = a := rfl
      have r1 : rd [a, b, c, d] 1 = b := rfl
      have r2 : rd [a, b, c, d] 2 = c := rfl
      have r3 : rd [a, b, c, d] 3 = d := rfl
      have ea : ∀ k, xansi_InBandResize.f (k + 3) a b c d = xansi_InBandResize.j3 k (mx a 0) (mx b 0) (mx c 0) (mx d 0) := by
        intro k
        unfold xansi_InBandResize.f mx
        by_cases h1 : a < 0 <;> by_cases h2 : b < 0 <;> by_cases h3 : c < 0 <;> by_cases h5 : d < 0 <;> simp only [xansi_InBandResize.j0, xansi_InBandResize.j1, xansi_InBandResize.j2, if_pos, if_neg, h1, h2, h3, h5, if_true, if_false]
      have pp : (⟨#[27, 91, 52, 56, 59]⟩ : ByteArray) = ⟨#[27, 91, 52, 56]⟩ ++ ⟨#[59]⟩ := by decide +kernel
      have hm : spec_MadeList.l1 500 (⟨#[27, 91, 52, 56]⟩ : ByteArray) [a, b, c, d] (([a, b, c, d] : List Int).length : Int) 0 = some (jn ⟨#[59]⟩ ⟨#[27, 91, 52, 56]⟩ ([a, b, c, d].map dz) ++ ⟨#[116]⟩) :=
        size_l1 [a, b, c, d] hl hw 4 0 _ 500 rfl (by decide) (by omega)
      have h4' : (([a, b, c, d] : List Int).length : Int) = 4 := rfl
      rw [hm, if_pos h4', if_pos h4', r0, r1, r2, r3, if_pos (by omega), if_pos (by omega), if_pos (by omega), if_pos (by omega), ea 494]
      simp only [xansi_InBandResize.j3, ia, ib, ic, id_, Option.bind_some]
      clear ia ib ic id_ da db dc dd hm ea r0 r1 r2 r3 ha hb hc hd pp hl h4'
      iterate 8 rw [if_pos (by omega)]
      refine ⟨_, rfl, ?_⟩
      rw [show (⟨#[27, 91, 52, 56, 59]⟩ : ByteArray) = ⟨#[27, 91, 52, 56]⟩ ++ ⟨#[59]⟩ by decide +kernel]
      rfl
  · rw [if_neg h4, if_neg h4]
    exact ⟨_, rfl, rfl⟩

theorem FnMakeList : laws_FnMakeList.Pure := by
  intro c l _ _ _ hw
  have hw : In l := fun x hx => wf_i64 (hw x hx)
  refine ⟨501, ?_⟩
  have aw : laws_FnMakeList.j0 501 c l true = some true := by simp only [laws_FnMakeList.j0, if_true, awake, Option.bind_some]
  unfold laws_FnMakeList.f
  by_cases hbig : (l.length : Int) > 2147483647
  · rw [if_pos hbig]
  by_cases h1 : c < 0
  · rw [if_neg hbig, if_pos h1, aw]
  by_cases h2 : c ≥ 9
  · rw [if_neg hbig, if_neg h1, if_pos h2, aw]
  by_cases h3 : (l.length : Int) > 100
  · rw [if_neg hbig, if_neg h1, if_neg h2, if_pos h3, aw]
  have hl : l.length ≤ 100 := by omega
  rw [if_neg hbig, if_neg h1, if_neg h2, if_neg h3]
  have go : Same c l → laws_FnMakeList.j0 501 c l false = some true := by
    rintro ⟨r, e1, e2⟩
    simp only [laws_FnMakeList.j0, awake, Option.bind_some, e1, e2]
    simp
  have hc : c = 0 ∨ c = 1 ∨ c = 2 ∨ c = 3 ∨ c = 4 ∨ c = 5 ∨ c = 6 ∨ c = 7 ∨ c = 8 := by omega
  by_cases h0 : (l.length : Int) = 0
  · rw [if_pos h0]
    by_cases h5 : c = 5
    · rw [if_pos h5, aw]
    rw [if_neg h5]
    by_cases h6 : c = 6
    · rw [show (c == 6) = true by simpa using h6, aw]
    rw [show (c == 6) = false by simpa using h6]
    apply go
    rcases hc with rfl | rfl | rfl | rfl | rfl | rfl | rfl | rfl | rfl
    · exact m0 l hl hw
    · exact m1 l hl hw
    · exact m2 l hl hw
    · exact m3 l hl hw
    · exact m4 l hl hw
    · exact absurd rfl h5
    · exact absurd rfl h6
    · exact m7 l hl hw
    · exact m8 l hl hw
  · rw [if_neg h0]
    apply go
    cases l with
    | nil => exact absurd rfl h0
    | cons x xs =>
      rcases hc with rfl | rfl | rfl | rfl | rfl | rfl | rfl | rfl | rfl
      · exact m0 _ hl hw
      · exact m1 _ hl hw
      · exact m2 _ hl hw
      · exact m3 _ hl hw
      · exact m4 _ hl hw
      · exact m5 x xs hl hw
      · exact m6 x xs hl hw
      · exact m7 _ hl hw
      · exact m8 _ hl hw

end Go.Proofs.YtplmmblofhhikaaDoor.Pure
