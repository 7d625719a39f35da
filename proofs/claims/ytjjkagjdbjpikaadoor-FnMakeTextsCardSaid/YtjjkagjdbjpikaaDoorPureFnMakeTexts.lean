/- It is proved that the law FnMakeTexts answers true: a function of several texts makes just the sequence that the reference tells; for every list of texts, every text and every function, with no further condition. The law's walk over a list of texts stands at the end. -/
import Derived.Test.YtjjkagjdbjpikaaDoorPXx8
import Derived.Test.YtjjkagjdbjpikaaDoorAwake
import Derived.Test.YtjjkagjdbjpikaaDoorStrs
namespace Go.Proofs.YtjjkagjdbjpikaaDoor.Pure
open Go Go.RowKit Go.Proofs.YtjjkagjdbjpikaaDoor.PX Go.Proofs.YtjjkagjdbjpikaaDoor.Or Go.Proofs.YtjjkagjdbjpikaaDoor.Aw Go.Proofs.YtjjkagjdbjpikaaDoorW.PrintWords Go.Proofs.YtjjkagjdbjpikaaDoorW.PrintLast Go.Proofs.YtjjkagjdbjpikaaDoorW.PrintMore

set_option linter.unusedSimpArgs false
set_option linter.unusedVariables false
set_option linter.unusedSectionVars false
theorem rdOf_at (l : List ByteArray) (i : Nat) (h : i < l.length) : rdOf ByteArray.empty l (i : Int) = l[i] := by unfold rdOf; simp [h]
theorem wi (i : Nat) (h : i ≤ 9000000000) : wrap64 ((i : Int) + 1) = ((i + 1 : Nat) : Int) := by unfold wrap64; omega
theorem w01 : wrap64 (0 + 1) = ((1 : Nat) : Int) := by decide +kernel
theorem z0 : (⟨#[]⟩ : ByteArray).size = 0 := rfl
theorem z1 (c : UInt8) : (⟨#[c]⟩ : ByteArray).size = 1 := rfl
theorem empty_app (s : ByteArray) : (⟨#[]⟩ : ByteArray) ++ s = s := ByteArray.empty_append

/-- Texts joined with a separator, after a first. -/
def jn (sep : ByteArray) : ByteArray → List ByteArray → ByteArray
  | acc, [] => acc
  | acc, x :: xs => jn sep ((acc ++ sep) ++ x) xs
def join (sep : ByteArray) : List ByteArray → ByteArray
  | [] => ⟨#[]⟩
  | x :: xs => jn sep x xs
theorem jn_pre (sep p : ByteArray) (xs : List ByteArray) : ∀ acc, jn sep (p ++ acc) xs = p ++ jn sep acc xs := by
  induction xs with
  | nil => intro acc; rfl
  | cons x xs ih =>
    intro acc
    show jn sep (((p ++ acc) ++ sep) ++ x) xs = p ++ jn sep ((acc ++ sep) ++ x) xs
    rw [← ih, ByteArray.append_assoc, ByteArray.append_assoc, ← ByteArray.append_assoc (a := acc)]
theorem jn_size (sep : ByteArray) (h1 : sep.size = 1) (xs : List ByteArray) (hs : ∀ s ∈ xs, s.size ≤ 8000) : ∀ acc, (jn sep acc xs).size ≤ acc.size + 8001 * xs.length := by
  induction xs with
  | nil => intro acc; exact Nat.le_refl _
  | cons x xs ih =>
    intro acc
    have := ih (fun s h => hs s (List.mem_cons_of_mem _ h)) ((acc ++ sep) ++ x)
    have hx := hs x List.mem_cons_self
    simp only [jn, ByteArray.size_append, List.length_cons] at this ⊢
    omega
theorem join_size (sep : ByteArray) (h1 : sep.size = 1) (xs : List ByteArray) (hs : ∀ s ∈ xs, s.size ≤ 8000) : (join sep xs).size ≤ 8001 * xs.length := by
  cases xs with
  | nil => exact Nat.le_refl _
  | cons x xs =>
    have := jn_size sep h1 xs (fun s h => hs s (List.mem_cons_of_mem _ h)) x
    have hx := hs x List.mem_cons_self
    simp only [join, List.length_cons]
    omega

theorem same_join : ∀ k a b c d e, xansi_zzJoin.l0 k a b c d e = spec_madeJoined.l0 k a b c d e := by
  intro k
  induction k with
  | zero => intro a b c d e; rfl
  | succ k ih => intro a b c d e; simp only [xansi_zzJoin.l0, spec_madeJoined.l0, ih]

theorem joined_l0 (l : List ByteArray) (sep : ByteArray) (hl : l.length ≤ 100) (hs : ∀ s ∈ l, s.size ≤ 8000) (h1 : sep.size = 1) : ∀ n i acc k, 1 ≤ i → i + n = l.length → acc.size ≤ 8001 * i → n < k → spec_madeJoined.l0 k sep acc l (l.length : Int) (i : Int) = some (jn sep acc (l.drop i)) := by
  intro n
  induction n with
  | zero =>
    intro i acc k _ hi _ hk
    obtain ⟨k, rfl⟩ : ∃ m, k = m + 1 := ⟨k - 1, by omega⟩
    rw [spec_madeJoined.l0, if_neg (by omega), List.drop_of_length_le (by omega)]
    rfl
  | succ n ih =>
    intro i acc k h1i hi ha hk
    obtain ⟨k, rfl⟩ : ∃ m, k = m + 1 := ⟨k - 1, by omega⟩
    have hlt : i < l.length := by omega
    have e := rdOf_at l i hlt
    have hx := hs l[i] (List.getElem_mem hlt)
    rw [spec_madeJoined.l0, e, if_pos (by omega), if_pos (by omega), if_pos (by omega), if_pos (by omega), if_pos (by omega), if_pos (by omega), wi i (by omega), ih (i + 1) _ k (by omega) (by omega) (by simp only [ByteArray.size_append]; omega) (by omega)]
    rw [List.drop_eq_getElem_cons hlt]; rfl
theorem joined (l : List ByteArray) (sep : ByteArray) (hl : l.length ≤ 100) (hs : ∀ s ∈ l, s.size ≤ 8000) (h1 : sep.size = 1) (k : Nat) (hk : 102 ≤ k) : spec_madeJoined.f k l sep = some (join sep l) := by
  obtain ⟨k, rfl⟩ : ∃ m, k = m + 1 := ⟨k - 1, by omega⟩
  unfold spec_madeJoined.f
  cases l with
  | nil => rw [spec_madeJoined.l0, if_neg (by simp)]; rfl
  | cons x xs =>
    have hx := hs x List.mem_cons_self
    have e : rdOf ByteArray.empty (x :: xs) 0 = x := rfl
    have hlen : (x :: xs).length = xs.length + 1 := rfl
    rw [spec_madeJoined.l0, e, if_pos (by omega), if_pos (by omega), if_pos (by omega), if_neg (by omega), if_pos (by rw [z0]; omega), empty_app, w01,
      joined_l0 (x :: xs) sep hl hs h1 xs.length 1 x k (by omega) (by omega) (by omega) (by omega)]
    rfl
theorem joined' (l : List ByteArray) (sep : ByteArray) (hl : l.length ≤ 100) (hs : ∀ s ∈ l, s.size ≤ 8000) (h1 : sep.size = 1) (k : Nat) (hk : 102 ≤ k) : xansi_zzJoin.f k l sep = some (join sep l) := by
  unfold xansi_zzJoin.f
  rw [same_join]
  exact joined l sep hl hs h1 k hk

/-! ### texts in hex -/
def dg (i : Int) : Int := bt (⟨#[48, 49, 50, 51, 52, 53, 54, 55, 56, 57, 65, 66, 67, 68, 69, 70]⟩ : ByteArray) i
/-- The digits of the first n bytes. -/
def hx (s : ByteArray) : Nat → List Int
  | 0 => []
  | n + 1 => hx s n ++ [dg (bt s n / 16), dg (Go.bits .and .u8 (bt s n) 15)]
theorem hx_len (s : ByteArray) : ∀ n, (hx s n).length = 2 * n := by
  intro n
  induction n with
  | zero => rfl
  | succ n ih => simp only [hx, List.length_append, ih, List.length_cons, List.length_nil]; omega
theorem str_app (a b : List Int) : strOfNums (a ++ b) = strOfNums a ++ strOfNums b := by
  apply ByteArray.ext
  simp [strOfNums, ByteArray.data_append]
theorem str_size (a : List Int) : (strOfNums a).size = a.length := by
  show ((a.map _).toArray).size = a.length
  simp
theorem bt_lt (s : ByteArray) (i : Int) : 0 ≤ bt s i ∧ bt s i < 256 := by
  unfold bt
  split
  · have := (s[i.toNat]'(by assumption)).toNat_lt
    omega
  · omega
theorem and15 (n : Int) : 0 ≤ Go.bits .and .u8 n 15 ∧ Go.bits .and .u8 n 15 < 16 := by
  have h2 : (BitVec.ofInt 8 n &&& BitVec.ofInt 8 15).toNat ≤ 15 := by
    rw [BitVec.toNat_and]
    exact Nat.le_trans Nat.and_le_right (by decide)
  have key : ∀ m : Nat, m ≤ 15 → 0 ≤ IntKind.u8.wrap (m : Int) ∧ IntKind.u8.wrap (m : Int) < 16 := by
    intro m hm
    have : IntKind.u8.wrap (m : Int) = (m : Int) % 256 := rfl
    rw [this]; omega
  exact key _ h2
def hex (s : ByteArray) : ByteArray := strOfNums (hx s s.size)
theorem hex_size (s : ByteArray) (h : s.size ≤ 4000) : (hex s).size ≤ 8000 := by unfold hex; rw [str_size, hx_len]; omega

theorem upper_l0 (s : ByteArray) (hs : s.size ≤ 4000) : ∀ n i k, i + n = s.size → n < k → xansi_zzHexUpper.l0 k s (hx s i) (i : Int) = some (hex s) := by
  intro n
  induction n with
  | zero =>
    intro i k hi hk
    obtain ⟨k, rfl⟩ : ∃ m, k = m + 1 := ⟨k - 1, by omega⟩
    obtain rfl : i = s.size := by omega
    rw [xansi_zzHexUpper.l0, if_neg (by omega)]
    rfl
  | succ n ih =>
    intro i k hi hk
    obtain ⟨k, rfl⟩ : ∃ m, k = m + 1 := ⟨k - 1, by omega⟩
    have hb := bt_lt s i
    have ha := and15 (bt s i)
    have hl := hx_len s i
    have hgo : xansi_zzHexUpper.l0 k s (hx s i ++ [dg (bt s i / 16), dg (Go.bits .and .u8 (bt s i) 15)]) (wrap64 ((i : Int) + 1)) = some (hex s) := by
      rw [wi i (by omega)]
      exact ih (i + 1) k (by omega) (by omega)
    rw [xansi_zzHexUpper.l0, if_pos (by omega), if_pos (by omega), if_pos (by omega), if_pos (by omega), if_pos (by omega), if_pos (by omega)]
    simp only [Option.bind_some]
    rw [if_pos (by simp only [List.length_cons, List.length_nil]; omega)]
    exact hgo
theorem upper (s : ByteArray) (hs : s.size ≤ 4000) (k : Nat) (hk : 4002 ≤ k) : xansi_zzHexUpper.f k s = some (hex s) := upper_l0 s hs s.size 0 k (by omega) (by omega)

theorem made_l1 (l : List ByteArray) (s : ByteArray) (hs : s.size ≤ 4000) (acc : List ByteArray) (hacc : acc.length ≤ 100) (j : Int) : ∀ n i k, i + n = s.size → n < k → spec_MadeTexts.l1 k acc s (strOfNums (hx s i)) (i : Int) l (l.length : Int) j = spec_MadeTexts.l0 (k - n - 1) (acc ++ [hex s]) l (l.length : Int) (wrap64 (j + 1)) := by
  intro n
  induction n with
  | zero =>
    intro i k hi hk
    obtain ⟨k, rfl⟩ : ∃ m, k = m + 1 := ⟨k - 1, by omega⟩
    obtain rfl : i = s.size := by omega
    rw [spec_MadeTexts.l1, if_neg (by omega), if_pos (by omega)]
    rfl
  | succ n ih =>
    intro i k hi hk
    obtain ⟨k, rfl⟩ : ∃ m, k = m + 1 := ⟨k - 1, by omega⟩
    have hb := bt_lt s i
    have ha := and15 (bt s i)
    have hl := str_size (hx s i)
    rw [hx_len] at hl
    have hgo : spec_MadeTexts.l1 k acc s (strOfNums (hx s i) ++ strOfNums [dg (bt s i / 16), dg (Go.bits .and .u8 (bt s i) 15)]) (wrap64 ((i : Int) + 1)) l (l.length : Int) j = spec_MadeTexts.l0 (k + 1 - (n + 1) - 1) (acc ++ [hex s]) l (l.length : Int) (wrap64 (j + 1)) := by
      rw [wi i (by omega), ← str_app, show k + 1 - (n + 1) - 1 = k - n - 1 by omega]
      exact ih (i + 1) k (by omega) (by omega)
    rw [spec_MadeTexts.l1, if_pos (by omega), if_pos (by omega), if_pos (by omega), if_pos (by omega), if_pos (by omega), if_pos (by omega)]
    simp only [Option.bind_some]
    rw [if_pos (by simp only [str_size, hx_len, List.length_cons, List.length_nil]; omega)]
    exact hgo
theorem made_l0 (l : List ByteArray) (hl : l.length ≤ 100) (hs : ∀ s ∈ l, s.size ≤ 4000) : ∀ n i k, i + n = l.length → 4002 * n + 200 ≤ k → spec_MadeTexts.l0 k ((l.take i).map hex) l (l.length : Int) (i : Int) = some (((⟨#[27, 80, 43, 113]⟩ : ByteArray) ++ join ⟨#[59]⟩ (l.map hex)) ++ (⟨#[27, 92]⟩ : ByteArray)) := by
  have hh : ∀ s ∈ l.map hex, s.size ≤ 8000 := by
    intro s h
    obtain ⟨x, hx, rfl⟩ := List.mem_map.1 h
    exact hex_size x (hs x hx)
  intro n
  induction n with
  | zero =>
    intro i k hi hk
    obtain ⟨k, rfl⟩ : ∃ m, k = m + 1 := ⟨k - 1, by omega⟩
    have hz := join_size ⟨#[59]⟩ rfl (l.map hex) hh
    rw [List.length_map] at hz
    rw [spec_MadeTexts.l0, if_neg (by omega), List.take_of_length_le (by omega), joined _ ⟨#[59]⟩ (by rw [List.length_map]; omega) hh rfl k (by omega), Option.bind_some, if_pos (by omega), if_pos (by omega)]
  | succ n ih =>
    intro i k hi hk
    obtain ⟨k, rfl⟩ : ∃ m, k = m + 1 := ⟨k - 1, by omega⟩
    have hlt : i < l.length := by omega
    have hx := hs l[i] (List.getElem_mem hlt)
    rw [spec_MadeTexts.l0, rdOf_at l i hlt, if_pos (by omega), if_pos (by omega), if_pos (by omega)]
    refine (made_l1 l l[i] hx ((l.take i).map hex) (by rw [List.length_map, List.length_take]; omega) (i : Int) l[i].size 0 k (by omega) (by omega)).trans ?_
    rw [wi i (by omega), show (l.take i).map hex ++ [hex l[i]] = (l.take (i + 1)).map hex by rw [show l.take (i + 1) = l.take i ++ [l[i]] by simp [hlt], List.map_append]; rfl]
    exact ih (i + 1) _ (by omega) (by omega)
theorem cap_l0 (l : List ByteArray) (hl : l.length ≤ 100) (hs : ∀ s ∈ l, s.size ≤ 4000) : ∀ n i acc k, 1 ≤ i → i + n = l.length → acc.size ≤ 8001 * i + 10 → n + 4100 ≤ k → xansi_XTGETTCAP.l0 k acc l (l.length : Int) (i : Int) = some (jn ⟨#[59]⟩ acc ((l.drop i).map hex) ++ ⟨#[27, 92]⟩) := by
  intro n
  induction n with
  | zero =>
    intro i acc k _ hi ha hk
    obtain ⟨k, rfl⟩ : ∃ m, k = m + 1 := ⟨k - 1, by omega⟩
    rw [xansi_XTGETTCAP.l0, if_neg (by omega), List.drop_of_length_le (by omega), if_pos (by omega)]
    rfl
  | succ n ih =>
    intro i acc k h1 hi ha hk
    obtain ⟨k, rfl⟩ : ∃ m, k = m + 1 := ⟨k - 1, by omega⟩
    have hlt : i < l.length := by omega
    have hx := hs l[i] (List.getElem_mem hlt)
    have hz := hex_size l[i] hx
    rw [xansi_XTGETTCAP.l0, rdOf_at l i hlt, if_pos (by omega), if_pos (by omega), if_pos (by omega), if_pos (by omega), if_pos (by omega), upper l[i] hx k (by omega), Option.bind_some, if_pos (by omega), wi i (by omega),
      ih (i + 1) _ k (by omega) (by omega) (by simp only [ByteArray.size_append, z1]; omega) (by omega), List.drop_eq_getElem_cons hlt, List.map_cons]
    rfl
theorem cap (x : ByteArray) (xs : List ByteArray) (hl : (x :: xs).length ≤ 100) (hs : ∀ s ∈ x :: xs, s.size ≤ 4000) (k : Nat) (hk : 4300 ≤ k) : xansi_XTGETTCAP.f k (x :: xs) = some (((⟨#[27, 80, 43, 113]⟩ : ByteArray) ++ join ⟨#[59]⟩ ((x :: xs).map hex)) ++ (⟨#[27, 92]⟩ : ByteArray)) := by
  obtain ⟨k, rfl⟩ : ∃ m, k = m + 1 := ⟨k - 1, by omega⟩
  have hlen : (x :: xs).length = xs.length + 1 := rfl
  have hx := hs x List.mem_cons_self
  have hz := hex_size x hx
  have p4 : (⟨#[27, 80, 43, 113]⟩ : ByteArray).size = 4 := rfl
  have e : rdOf ByteArray.empty (x :: xs) 0 = x := rfl
  unfold xansi_XTGETTCAP.f
  rw [if_neg (by omega), xansi_XTGETTCAP.l0, e, if_pos (by omega), if_pos (by omega), if_pos (by omega), if_neg (by omega), upper x hx k (by omega), Option.bind_some, if_pos (by omega), w01,
    cap_l0 (x :: xs) hl hs xs.length 1 _ k (by omega) (by omega) (by simp only [ByteArray.size_append, p4]; omega) (by omega), jn_pre]
  rfl

/-! ### the ten functions -/
def Same (c : Int) (s : ByteArray) (l : List ByteArray) : Prop := ∃ r, impl_MakeTexts.f 500000 c s l = some r ∧ spec_MadeTexts.f 500000 c s l = some r
theorem up8 {l : List ByteArray} (h : ∀ s ∈ l, s.size ≤ 4000) : ∀ s ∈ l, s.size ≤ 8000 := fun s hs => Nat.le_trans (h s hs) (by decide)
theorem link (s : ByteArray) (h : s.size ≤ 4000) (l : List ByteArray) (hl : l.length ≤ 60) (hs : ∀ s ∈ l, s.size ≤ 4000) : xansi_SetHyperlink.f 500000 s l = some (((((⟨#[27, 93, 56, 59]⟩ : ByteArray) ++ join ⟨#[58]⟩ l) ++ (⟨#[59]⟩ : ByteArray)) ++ s) ++ (⟨#[7]⟩ : ByteArray)) := by
  have hz := join_size ⟨#[58]⟩ rfl l (up8 hs)
  unfold xansi_SetHyperlink.f
  by_cases h0 : (l.length : Int) > 0
  · rw [if_pos h0, joined' l ⟨#[58]⟩ (by omega) (up8 hs) rfl 500000 (by omega), Option.bind_some, if_pos (by omega), if_pos (by omega), if_pos (by omega), if_pos (by omega)]
  · obtain rfl : l = [] := List.eq_nil_of_length_eq_zero (by omega)
    rw [if_neg h0, if_pos (by omega), if_pos (by omega), if_pos (by omega), if_pos (by omega)]
    rfl
theorem term (l : List ByteArray) (hl : l.length ≤ 100) (hs : ∀ s ∈ l, s.size ≤ 8000) : xansi_FinalTerm.f 500000 l = some (((⟨#[27, 93, 49, 51, 51, 59]⟩ : ByteArray) ++ join ⟨#[59]⟩ l) ++ (⟨#[7]⟩ : ByteArray)) := by
  have hz := join_size ⟨#[59]⟩ rfl l hs
  unfold xansi_FinalTerm.f
  rw [joined' l ⟨#[59]⟩ hl hs rfl 500000 (by omega), Option.bind_some, if_pos (by omega), if_pos (by omega)]
theorem cons8 {a : ByteArray} (ha : a.size ≤ 8000) {l : List ByteArray} (hs : ∀ s ∈ l, s.size ≤ 8000) : ∀ s ∈ a :: l, s.size ≤ 8000 := by
  intro s h
  rcases List.mem_cons.1 h with rfl | h
  · exact ha
  · exact hs s h

section
variable (s : ByteArray) (h : s.size ≤ 4000) (l : List ByteArray) (hl : l.length ≤ 60) (hs : ∀ s ∈ l, s.size ≤ 4000)
include h hl hs
theorem m0 : Same 0 s l := by
  have hz := join_size ⟨#[58]⟩ rfl l (up8 hs)
  unfold Same impl_MakeTexts.f spec_MadeTexts.f
  rw [if_pos rfl, if_pos rfl, link s h l hl hs, joined l ⟨#[58]⟩ (by omega) (up8 hs) rfl 500000 (by omega)]
  exact ⟨_, rfl, by rw [Option.bind_some, if_pos (by omega), if_pos (by omega), if_pos (by omega), if_pos (by omega)]⟩
theorem m1 : Same 1 s l := by
  have hz := join_size ⟨#[59]⟩ rfl l (up8 hs)
  have hi : xansi_URxvtExt.f 500000 s l = some (((((⟨#[27, 93, 55, 55, 55, 59]⟩ : ByteArray) ++ s) ++ (⟨#[59]⟩ : ByteArray)) ++ join ⟨#[59]⟩ l) ++ (⟨#[7]⟩ : ByteArray)) := by
    unfold xansi_URxvtExt.f
    rw [if_pos (by omega), if_pos (by omega), joined' l ⟨#[59]⟩ (by omega) (up8 hs) rfl 500000 (by omega), Option.bind_some, if_pos (by omega), if_pos (by omega)]
  unfold Same impl_MakeTexts.f spec_MadeTexts.f
  rw [if_neg (by omega), if_pos rfl, if_neg (by omega), if_pos rfl, hi, joined l ⟨#[59]⟩ (by omega) (up8 hs) rfl 500000 (by omega)]
  exact ⟨_, rfl, by rw [if_pos (by omega), if_pos (by omega), Option.bind_some, if_pos (by omega), if_pos (by omega)]⟩
theorem m3 : Same 3 s l := by
  have hz := join_size ⟨#[58]⟩ rfl l (up8 hs)
  unfold Same impl_MakeTexts.f spec_MadeTexts.f xansi_DesktopNotification.f
  rw [if_neg (by omega), if_neg (by omega), if_pos rfl, if_neg (by omega), if_neg (by omega), if_pos rfl, joined l ⟨#[58]⟩ (by omega) (up8 hs) rfl 500000 (by omega), joined' l ⟨#[58]⟩ (by omega) (up8 hs) rfl 500000 (by omega)]
  simp only [Option.bind_some]
  rw [if_pos (by omega), if_pos (by omega), if_pos (by omega), if_pos (by omega)]
  exact ⟨_, rfl, rfl⟩
theorem m4 : Same 4 s l := by
  have hz := join_size ⟨#[58]⟩ rfl l (up8 hs)
  unfold Same impl_MakeTexts.f spec_MadeTexts.f xansi_ResetHyperlink.f
  rw [if_neg (by omega), if_neg (by omega), if_neg (by omega), if_pos rfl, if_neg (by omega), if_neg (by omega), if_neg (by omega), if_pos rfl, joined l ⟨#[58]⟩ (by omega) (up8 hs) rfl 500000 (by omega), link ⟨#[]⟩ (by rw [z0]; omega) l hl hs]
  simp only [Option.bind_some]
  rw [if_pos (by omega), if_pos (by omega)]
  refine ⟨_, rfl, ?_⟩
  rw [show (⟨#[59, 7]⟩ : ByteArray) = ⟨#[59]⟩ ++ ⟨#[7]⟩ by decide +kernel, ByteArray.append_assoc (b := ⟨#[59]⟩) (c := ⟨#[]⟩), show (⟨#[59]⟩ : ByteArray) ++ ⟨#[]⟩ = ⟨#[59]⟩ by decide +kernel, ← ByteArray.append_assoc]
theorem m5 : Same 5 s l := by
  unfold Same impl_MakeTexts.f spec_MadeTexts.f
  rw [if_neg (by omega), if_neg (by omega), if_neg (by omega), if_neg (by omega), if_pos rfl, if_neg (by omega), if_neg (by omega), if_neg (by omega), if_neg (by omega), if_pos rfl]
  cases l with
  | nil => exact ⟨_, rfl, rfl⟩
  | cons x xs =>
    have hlen : (x :: xs).length = xs.length + 1 := rfl
    rw [cap x xs (by omega) hs 500000 (by omega), if_neg (by omega)]
    exact ⟨_, rfl, made_l0 (x :: xs) (by omega) hs (x :: xs).length 0 500000 (by omega) (by omega)⟩
theorem m6 : Same 6 s l := by
  have hz := join_size ⟨#[59]⟩ rfl l (up8 hs)
  unfold Same impl_MakeTexts.f spec_MadeTexts.f
  rw [if_neg (by omega), if_neg (by omega), if_neg (by omega), if_neg (by omega), if_neg (by omega), if_pos rfl, if_neg (by omega), if_neg (by omega), if_neg (by omega), if_neg (by omega), if_neg (by omega), if_pos rfl, joined l ⟨#[59]⟩ (by omega) (up8 hs) rfl 500000 (by omega), term l (by omega) (up8 hs)]
  exact ⟨_, rfl, by rw [Option.bind_some, if_pos (by omega), if_pos (by omega)]⟩
theorem m7 : Same 7 s l := by
  have h8 := cons8 (a := ⟨#[65]⟩) (by rw [z1]; omega) (up8 hs)
  have hlen : ((⟨#[65]⟩ : ByteArray) :: l).length = l.length + 1 := rfl
  have hz := join_size ⟨#[59]⟩ rfl (⟨#[65]⟩ :: l) h8
  have hi : xansi_FinalTermPrompt.f 500000 l = some (((⟨#[27, 93, 49, 51, 51, 59]⟩ : ByteArray) ++ join ⟨#[59]⟩ (⟨#[65]⟩ :: l)) ++ (⟨#[7]⟩ : ByteArray)) := by
    unfold xansi_FinalTermPrompt.f
    by_cases h0 : (l.length : Int) = 0
    · obtain rfl : l = [] := List.eq_nil_of_length_eq_zero (by omega)
      rw [if_pos h0, term [⟨#[65]⟩] (by simp) h8]; rfl
    · rw [if_neg h0, Option.bind_some, if_pos (by simp only [List.length_cons, List.length_nil]; omega), List.singleton_append, term _ (by omega) h8]; rfl
  have e4 : (([(⟨#[65]⟩ : ByteArray), (⟨#[66]⟩ : ByteArray), (⟨#[67]⟩ : ByteArray), (⟨#[68]⟩ : ByteArray)] : List ByteArray).length : Int) = 4 := rfl
  have ew : wrap64 (7 - 7) = 0 := by decide +kernel
  have er : rdOf ByteArray.empty [(⟨#[65]⟩ : ByteArray), (⟨#[66]⟩ : ByteArray), (⟨#[67]⟩ : ByteArray), (⟨#[68]⟩ : ByteArray)] 0 = ⟨#[65]⟩ := rfl
  unfold Same impl_MakeTexts.f spec_MadeTexts.f
  rw [if_neg (by omega), if_neg (by omega), if_neg (by omega), if_neg (by omega), if_neg (by omega), if_neg (by omega), if_pos rfl, if_neg (by omega), if_neg (by omega), if_neg (by omega), if_neg (by omega), if_neg (by omega), if_neg (by omega), hi]
  simp only [Option.bind_some, ew, e4, er, List.singleton_append]
  rw [if_pos (by omega), if_pos (by omega), if_pos (by simp only [List.length_cons, List.length_nil]; omega), joined _ ⟨#[59]⟩ (by omega) h8 rfl 500000 (by omega), Option.bind_some, if_pos (by omega), if_pos (by omega)]
  exact ⟨_, rfl, rfl⟩
theorem m8 : Same 8 s l := by
  have h8 := cons8 (a := ⟨#[66]⟩) (by rw [z1]; omega) (up8 hs)
  have hlen : ((⟨#[66]⟩ : ByteArray) :: l).length = l.length + 1 := rfl
  have hz := join_size ⟨#[59]⟩ rfl (⟨#[66]⟩ :: l) h8
  have hi : xansi_FinalTermCmdStart.f 500000 l = some (((⟨#[27, 93, 49, 51, 51, 59]⟩ : ByteArray) ++ join ⟨#[59]⟩ (⟨#[66]⟩ :: l)) ++ (⟨#[7]⟩ : ByteArray)) := by
    unfold xansi_FinalTermCmdStart.f
    by_cases h0 : (l.length : Int) = 0
    · obtain rfl : l = [] := List.eq_nil_of_length_eq_zero (by omega)
      rw [if_pos h0, term [⟨#[66]⟩] (by simp) h8]; rfl
    · rw [if_neg h0, Option.bind_some, if_pos (by simp only [List.length_cons, List.length_nil]; omega), List.singleton_append, term _ (by omega) h8]; rfl
  have e4 : (([(⟨#[65]⟩ : ByteArray), (⟨#[66]⟩ : ByteArray), (⟨#[67]⟩ : ByteArray), (⟨#[68]⟩ : ByteArray)] : List ByteArray).length : Int) = 4 := rfl
  have ew : wrap64 (8 - 7) = 1 := by decide +kernel
  have er : rdOf ByteArray.empty [(⟨#[65]⟩ : ByteArray), (⟨#[66]⟩ : ByteArray), (⟨#[67]⟩ : ByteArray), (⟨#[68]⟩ : ByteArray)] 1 = ⟨#[66]⟩ := rfl
  unfold Same impl_MakeTexts.f spec_MadeTexts.f
  rw [if_neg (by omega), if_neg (by omega), if_neg (by omega), if_neg (by omega), if_neg (by omega), if_neg (by omega), if_neg (by omega), if_pos rfl, if_neg (by omega), if_neg (by omega), if_neg (by omega), if_neg (by omega), if_neg (by omega), if_neg (by omega), hi]
  simp only [Option.bind_some, ew, e4, er, List.singleton_append]
  rw [if_pos (by omega), if_pos (by omega), if_pos (by simp only [List.length_cons, List.length_nil]; omega), joined _ ⟨#[59]⟩ (by omega) h8 rfl 500000 (by omega), Option.bind_some, if_pos (by omega), if_pos (by omega)]
  exact ⟨_, rfl, rfl⟩
theorem m9 : Same 9 s l := by
  have h8 := cons8 (a := ⟨#[67]⟩) (by rw [z1]; omega) (up8 hs)
  have hlen : ((⟨#[67]⟩ : ByteArray) :: l).length = l.length + 1 := rfl
  have hz := join_size ⟨#[59]⟩ rfl (⟨#[67]⟩ :: l) h8
  have hi : xansi_FinalTermCmdExecuted.f 500000 l = some (((⟨#[27, 93, 49, 51, 51, 59]⟩ : ByteArray) ++ join ⟨#[59]⟩ (⟨#[67]⟩ :: l)) ++ (⟨#[7]⟩ : ByteArray)) := by
    unfold xansi_FinalTermCmdExecuted.f
    by_cases h0 : (l.length : Int) = 0
    · obtain rfl : l = [] := List.eq_nil_of_length_eq_zero (by omega)
      rw [if_pos h0, term [⟨#[67]⟩] (by simp) h8]; rfl
    · rw [if_neg h0, Option.bind_some, if_pos (by simp only [List.length_cons, List.length_nil]; omega), List.singleton_append, term _ (by omega) h8]; rfl
  have e4 : (([(⟨#[65]⟩ : ByteArray), (⟨#[66]⟩ : ByteArray), (⟨#[67]⟩ : ByteArray), (⟨#[68]⟩ : ByteArray)] : List ByteArray).length : Int) = 4 := rfl
  have ew : wrap64 (9 - 7) = 2 := by decide +kernel
  have er : rdOf ByteArray.empty [(⟨#[65]⟩ : ByteArray), (⟨#[66]⟩ : ByteArray), (⟨#[67]⟩ : ByteArray), (⟨#[68]⟩ : ByteArray)] 2 = ⟨#[67]⟩ := rfl
  unfold Same impl_MakeTexts.f spec_MadeTexts.f
  rw [if_neg (by omega), if_neg (by omega), if_neg (by omega), if_neg (by omega), if_neg (by omega), if_neg (by omega), if_neg (by omega), if_neg (by omega), if_pos rfl, if_neg (by omega), if_neg (by omega), if_neg (by omega), if_neg (by omega), if_neg (by omega), if_neg (by omega), hi]
  simp only [Option.bind_some, ew, e4, er, List.singleton_append]
  rw [if_pos (by omega), if_pos (by omega), if_pos (by simp only [List.length_cons, List.length_nil]; omega), joined _ ⟨#[59]⟩ (by omega) h8 rfl 500000 (by omega), Option.bind_some, if_pos (by omega), if_pos (by omega)]
  exact ⟨_, rfl, rfl⟩
theorem m10 : Same 10 s l := by
  have h8 := cons8 (a := ⟨#[68]⟩) (by rw [z1]; omega) (up8 hs)
  have hlen : ((⟨#[68]⟩ : ByteArray) :: l).length = l.length + 1 := rfl
  have hz := join_size ⟨#[59]⟩ rfl (⟨#[68]⟩ :: l) h8
  have hi : xansi_FinalTermCmdFinished.f 500000 l = some (((⟨#[27, 93, 49, 51, 51, 59]⟩ : ByteArray) ++ join ⟨#[59]⟩ (⟨#[68]⟩ :: l)) ++ (⟨#[7]⟩ : ByteArray)) := by
    unfold xansi_FinalTermCmdFinished.f
    by_cases h0 : (l.length : Int) = 0
    · obtain rfl : l = [] := List.eq_nil_of_length_eq_zero (by omega)
      rw [if_pos h0, term [⟨#[68]⟩] (by simp) h8]; rfl
    · rw [if_neg h0, Option.bind_some, if_pos (by simp only [List.length_cons, List.length_nil]; omega), List.singleton_append, term _ (by omega) h8]; rfl
  have e4 : (([(⟨#[65]⟩ : ByteArray), (⟨#[66]⟩ : ByteArray), (⟨#[67]⟩ : ByteArray), (⟨#[68]⟩ : ByteArray)] : List ByteArray).length : Int) = 4 := rfl
  have ew : wrap64 (10 - 7) = 3 := by decide +kernel
  have er : rdOf ByteArray.empty [(⟨#[65]⟩ : ByteArray), (⟨#[66]⟩ : ByteArray), (⟨#[67]⟩ : ByteArray), (⟨#[68]⟩ : ByteArray)] 3 = ⟨#[68]⟩ := rfl
  unfold Same impl_MakeTexts.f spec_MadeTexts.f
  rw [if_neg (by omega), if_neg (by omega), if_neg (by omega), if_neg (by omega), if_neg (by omega), if_neg (by omega), if_neg (by omega), if_neg (by omega), if_neg (by omega), if_pos rfl, if_neg (by omega), if_neg (by omega), if_neg (by omega), if_neg (by omega), if_neg (by omega), if_neg (by omega), hi]
  simp only [Option.bind_some, ew, e4, er, List.singleton_append]
  rw [if_pos (by omega), if_pos (by omega), if_pos (by simp only [List.length_cons, List.length_nil]; omega), joined _ ⟨#[59]⟩ (by omega) h8 rfl 500000 (by omega), Option.bind_some, if_pos (by omega), if_pos (by omega)]
  exact ⟨_, rfl, rfl⟩
end
theorem same (c : Int) (h0 : 0 ≤ c) (h1 : c < 11) (h2 : c ≠ 2) (s : ByteArray) (h : s.size ≤ 4000) (l : List ByteArray) (hl : l.length ≤ 60) (hs : ∀ s ∈ l, s.size ≤ 4000) : Same c s l := by
  have : c = 0 ∨ c = 1 ∨ c = 3 ∨ c = 4 ∨ c = 5 ∨ c = 6 ∨ c = 7 ∨ c = 8 ∨ c = 9 ∨ c = 10 := by omega
  rcases this with rfl | rfl | rfl | rfl | rfl | rfl | rfl | rfl | rfl | rfl
  · exact m0 s h l hl hs
  · exact m1 s h l hl hs
  · exact m3 s h l hl hs
  · exact m4 s h l hl hs
  · exact m5 s h l hl hs
  · exact m6 s h l hl hs
  · exact m7 s h l hl hs
  · exact m8 s h l hl hs
  · exact m9 s h l hl hs
  · exact m10 s h l hl hs

/-! ### the law -/
/-- 'Short' tells of every list whether it has few and short texts. -/
theorem short_l0 (l : List ByteArray) (hl : l.length ≤ 2147483647) : ∀ n i k, i + n = l.length → n < k → (laws_makeShort.l0 k l l (l.length : Int) (i : Int) = some false ∨ ((∀ j, i ≤ j → (h : j < l.length) → l[j].size ≤ 4000) ∧ laws_makeShort.l0 k l l (l.length : Int) (i : Int) = some (decide ((l.length : Int) ≤ 60)))) := by
  intro n
  induction n with
  | zero =>
    intro i k hi hk
    obtain ⟨k, rfl⟩ : ∃ m, k = m + 1 := ⟨k - 1, by omega⟩
    right
    exact ⟨fun j hj h => absurd h (by omega), by rw [laws_makeShort.l0, if_neg (by omega)]⟩
  | succ n ih =>
    intro i k hi hk
    obtain ⟨k, rfl⟩ : ∃ m, k = m + 1 := ⟨k - 1, by omega⟩
    have hlt : i < l.length := by omega
    rw [laws_makeShort.l0, rdOf_at l i hlt, if_pos (by omega), if_pos (by omega), if_pos (by omega), wi i (by omega)]
    by_cases hb : (l[i].size : Int) > 4000
    · rw [if_pos hb]; exact Or.inl rfl
    · rw [if_neg hb]
      rcases ih (i + 1) k (by omega) (by omega) with h | ⟨h1, h2⟩
      · exact Or.inl h
      · refine Or.inr ⟨fun j hj h => ?_, h2⟩
        by_cases e : j = i
        · subst e; omega
        · exact h1 j (by omega) h
theorem short (l : List ByteArray) (hl : l.length ≤ 2147483647) (k : Nat) (hk : l.length + 1 ≤ k) : laws_makeShort.f k l = some false ∨ (laws_makeShort.f k l = some true ∧ l.length ≤ 60 ∧ ∀ s ∈ l, s.size ≤ 4000) := by
  unfold laws_makeShort.f
  rcases short_l0 l hl l.length 0 k (by omega) (by omega) with h | ⟨h1, h2⟩
  · exact Or.inl h
  · by_cases h6 : (l.length : Int) ≤ 60
    · refine Or.inr ⟨by rw [← decide_eq_true h6]; exact h2, by omega, fun s hs => ?_⟩
      obtain ⟨j, hj, rfl⟩ := List.mem_iff_getElem.1 hs
      exact h1 j (Nat.zero_le _) hj
    · exact Or.inl (by rw [← decide_eq_false h6]; exact h2)
theorem fits_l0 (l : List ByteArray) (hl : l.length ≤ 2147483647) : ∀ n i k, i + n = l.length → n < k → ∃ b, laws_zzFits5.l0 k l (l.length : Int) (i : Int) = some b := by
  intro n
  induction n with
  | zero =>
    intro i k hi hk
    obtain ⟨k, rfl⟩ : ∃ m, k = m + 1 := ⟨k - 1, by omega⟩
    exact ⟨true, by rw [laws_zzFits5.l0, if_neg (by omega)]⟩
  | succ n ih =>
    intro i k hi hk
    obtain ⟨k, rfl⟩ : ∃ m, k = m + 1 := ⟨k - 1, by omega⟩
    have hlt : i < l.length := by omega
    rw [laws_zzFits5.l0, if_pos (by omega), if_pos (by omega), if_pos (by omega), wi i (by omega)]
    by_cases hb : ((rdOf ByteArray.empty l (i : Int)).size : Int) > 2147483647
    · rw [if_pos hb]; exact ⟨_, rfl⟩
    · rw [if_neg hb]; exact ih (i + 1) k (by omega) (by omega)

def PureFnMakeTexts : Prop := ∀ (a0 : Int) (a1 : ByteArray) (l2 : List ByteArray), ∃ k, laws_FnMakeTexts.f k a0 a1 l2 = some true
theorem FnMakeTexts : PureFnMakeTexts := by
  intro c s l
  have yes : ∀ k, laws_FnMakeTexts.j0 (k + 1) c s l true = some true := fun k => by simp only [laws_FnMakeTexts.j0, if_true]
  have aw : ∀ k, laws_FnMakeTexts.j1 (k + 1) c s l true = some true := fun k => by simp only [laws_FnMakeTexts.j1, if_true, awake, Option.bind_some]
  by_cases hbig : (l.length : Int) > 2147483647
  · refine ⟨1, ?_⟩
    unfold laws_FnMakeTexts.f laws_zzFits5.f
    rw [if_pos hbig]
    split
    · exact yes 0
    · exact yes 0
  have hl : l.length ≤ 2147483647 := by omega
  -- the fuel: enough for the lists' loops
  by_cases hbg : (s.size : Int) > 2147483647
  · refine ⟨1, ?_⟩
    unfold laws_FnMakeTexts.f
    rw [if_pos hbg]
    exact yes 0
  rcases short l hl (l.length + 500001) (by omega) with hsh | ⟨hsh, hl6, hs⟩
  · refine ⟨l.length + 500002, ?_⟩
    obtain ⟨b, hb⟩ := fits_l0 l hl l.length 0 (l.length + 500002) (by omega) (by omega)
    unfold laws_FnMakeTexts.f laws_zzFits5.f
    rw [if_neg hbg, if_neg hbig, show laws_zzFits5.l0 (l.length + 500002) l (l.length : Int) 0 = some b from hb, Option.bind_some]
    cases b with
    | false => exact yes _
    | true =>
      simp only [laws_FnMakeTexts.j0, Bool.not_true, Bool.false_eq_true, if_false]
      rw [aw (l.length + 500000)]
      split
      · rfl
      split
      · rfl
      split
      · rfl
      rcases short [s] (by simp) (l.length + 500001) (by simp) with h | ⟨h, _, _⟩
      · rw [h]; simp only [Option.bind_some, Bool.false_eq_true, if_false]
      · rw [h, hsh]; simp only [Option.bind_some, if_true, Bool.not_false]; exact aw _
  · refine ⟨500002, ?_⟩
    have hsh2 : laws_makeShort.f 500001 l = some true := by
      rcases short l hl 500001 (by omega) with h | ⟨h, _, _⟩
      · have hm : ∀ m, LeO (laws_makeShort.f 500001 l) (laws_makeShort.f (500001 + m) l) := by
          intro m
          induction m with
          | zero => exact LeO.refl _
          | succ m ih => exact fun r hr => laws_makeShort.mono _ _ _ (ih r hr)
        have := hm l.length false h
        rw [Nat.add_comm, hsh] at this
        cases this
      · exact h
    obtain ⟨b, hb⟩ := fits_l0 l hl l.length 0 500002 (by omega) (by omega)
    unfold laws_FnMakeTexts.f laws_zzFits5.f
    rw [if_neg hbg, if_neg hbig, show laws_zzFits5.l0 500002 l (l.length : Int) 0 = some b from hb, Option.bind_some]
    cases b with
    | false => exact yes _
    | true =>
      simp only [laws_FnMakeTexts.j0, Bool.not_true, Bool.false_eq_true, if_false]
      by_cases c0 : c < 0
      · rw [if_pos c0]; exact aw _
      by_cases c1 : c ≥ 11
      · rw [if_neg c0, if_pos c1]; exact aw _
      by_cases c2 : c = 2
      · rw [if_neg c0, if_neg c1, if_pos c2]; exact aw _
      rw [if_neg c0, if_neg c1, if_neg c2]
      rcases short [s] (by simp) 500001 (by simp) with h | ⟨h, _, h4⟩
      · rw [h]; simp only [Option.bind_some, Bool.false_eq_true, if_false]; exact aw _
      · rw [h, hsh2]
        simp only [Option.bind_some, if_true, Bool.not_true, laws_FnMakeTexts.j1, awake, Bool.false_eq_true, if_false]
        obtain ⟨r, e1, e2⟩ := same c (by omega) (by omega) c2 s (h4 s (by simp)) l hl6 hs
        rw [e1, e2]
        simp

theorem walk (P : PureFnMakeTexts) (a0 : Int) (a1 : ByteArray) (a2 : Option Addr) (len2 cap2 : Nat) (z2 : List ByteArray) (w : World) (hLD : Laid w) (_w0 : (Lit.int .i64 a0).wf = true) (_w1 : a1.size ≤ 140737488351232) (w2 : Strs.IsStrs w a2 len2 cap2 z2) :
    Calls Tryd.prog 3 #[.int .i64 a0, .string a1, .slice a2 len2 cap2] w fun e w' => e = .returned (.bool true) ∧ Below w.heap.size w w' := by
  obtain ⟨l2, rfl, hr2, hm2, hw2, hc2⟩ := Strs.row w2
  obtain ⟨k, h⟩ := P a0 a1 l2
  refine (laws_FnMakeTexts.calls k a0 a1 _ _ l2 true w hr2 hc2 hLD h).mono ?_
  rintro e w' ⟨rfl, hd⟩
  exact ⟨rfl, hd⟩

end Go.Proofs.YtjjkagjdbjpikaaDoor.Pure
