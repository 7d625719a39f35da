/- It is proved that the law FnMakeClipboard answers true: the clipboard is set, asked for and emptied by its sequence, the data in base64; for the functions 0 to 4, names of ASCII and data of at most 4000 bytes (others are let pass), with no further condition. -/
import Derived.Test.YtjjkagjdbjpikaaDoorPCx4
import Derived.Test.YtjjkagjdbjpikaaDoorAwakeC
namespace Go.Proofs.YtjjkagjdbjpikaaDoor.Pure
set_option linter.unusedSimpArgs false
set_option linter.unusedVariables false
open Go Go.RowKit Go.Proofs.YtjjkagjdbjpikaaDoor.PC Go.Proofs.YtjjkagjdbjpikaaDoor.Or Go.Proofs.YtjjkagjdbjpikaaDoor.Aw Go.Proofs.YtjjkagjdbjpikaaDoorW.PrintWords Go.Proofs.YtjjkagjdbjpikaaDoorW.PrintLast

theorem short1 (s : ByteArray) (k : Nat) (hk : 2 ≤ k) : laws_makeShort.f k [s] = some (decide (s.size ≤ 4000)) := by
  obtain ⟨k, rfl⟩ : ∃ m, k = m + 2 := ⟨k - 2, by omega⟩
  have e : rdOf ByteArray.empty [s] 0 = s := rfl
  have w : wrap64 (0 + 1) = 1 := by unfold wrap64; omega
  unfold laws_makeShort.f
  simp only [laws_makeShort.l0, List.length_cons, List.length_nil, e, w]
  by_cases h : s.size ≤ 4000
  · have h2 : ¬ ((s.size : Int) > 4000) := by omega
    simp [h, h2]
  · have h2 : ((s.size : Int) > 4000) := by omega
    simp [h, h2]

theorem or0 (y : Int) (h0 : 0 ≤ y) (h1 : y < 4294967296) : Go.bits .or .u32 y 0 = y := by
  unfold Go.bits
  rw [IntKind.wrap_u32]
  have hb : IntKind.u32.bits = 32 := rfl
  simp [hb]
  omega
theorem bt_get (s : ByteArray) (i : Nat) : bt s (i : Int) = (bytesOf s).getD i 0 := by
  rw [← rd_bytesOf]
  simp [rd]
theorem set2 (out : List Int) (a b c d x : Int) : (out ++ [a, b, c, d]).set (out.length + 2) x = out ++ [a, b, x, d] := by
  rw [List.set_append_right _ _ (by omega)]
  simp
theorem set3 (out : List Int) (a b c d x : Int) : (out ++ [a, b, c, d]).set (out.length + 3) x = out ++ [a, b, c, x] := by
  rw [List.set_append_right _ _ (by omega)]
  simp

theorem sg_is (V S : Int) : bt (⟨#[65, 66, 67, 68, 69, 70, 71, 72, 73, 74, 75, 76, 77, 78, 79, 80, 81, 82, 83, 84, 85, 86, 87, 88, 89, 90, 97, 98, 99, 100, 101, 102, 103, 104, 105, 106, 107, 108, 109, 110, 111, 112, 113, 114, 115, 116, 117, 118, 119, 120, 121, 122, 48, 49, 50, 51, 52, 53, 54, 55, 56, 57, 43, 47]⟩ : ByteArray) (Go.bits .and .u32 (V / S) 63) = sg V S := rfl
theorem sg_one (V : Int) : bt (⟨#[65, 66, 67, 68, 69, 70, 71, 72, 73, 74, 75, 76, 77, 78, 79, 80, 81, 82, 83, 84, 85, 86, 87, 88, 89, 90, 97, 98, 99, 100, 101, 102, 103, 104, 105, 106, 107, 108, 109, 110, 111, 112, 113, 114, 115, 116, 117, 118, 119, 120, 121, 122, 48, 49, 50, 51, 52, 53, 54, 55, 56, 57, 43, 47]⟩ : ByteArray) (Go.bits .and .u32 V 63) = sg V 1 := by unfold sg; rw [Int.ediv_one]; rfl
theorem quad1 (V : Int) : quad V 1 = [sg V 262144, sg V 4096, 61, 61] := by unfold quad; simp
theorem quad2 (V : Int) : quad V 2 = [sg V 262144, sg V 4096, sg V 64, 61] := by unfold quad; simp
theorem quad3 (V : Int) : quad V 3 = [sg V 262144, sg V 4096, sg V 64, sg V 1] := by unfold quad; simp
theorem j2_step (f : Nat) (s : ByteArray) (out : List Int) (k : Nat) (V : Int) (hk : k < s.size) (hs : s.size ≤ 4000) (h0 : 0 ≤ V) (h1 : V < 4294967296) (ho : out.length ≤ 100000) :
    xansi_zzBase64.j2 (f + 1) s out (k : Int) V = xansi_zzBase64.l0 f s (out ++ quad V (min (s.size - k) 3)) ((k + 3 : Nat) : Int) := by
  have w1 : wrap64 ((k : Int) + 1) = (k : Int) + 1 := by unfold wrap64; omega
  have w2 : wrap64 ((k : Int) + 2) = (k : Int) + 2 := by unfold wrap64; omega
  have w3 : wrap64 ((k : Int) + 3) = ((k + 3 : Nat) : Int) := by unfold wrap64; omega
  have a1 := and63 (V / 262144) (by omega) (by omega)
  have a2 := and63 (V / 4096) (by omega) (by omega)
  have a3 := and63 (V / 64) (by omega) (by omega)
  have a4 := and63 V (by omega) (by omega)
  simp only [xansi_zzBase64.j2]
  rw [if_pos (by omega), if_pos (by omega), if_pos (by omega), if_pos (by omega), if_pos (by omega), if_pos (by omega), if_pos (by omega), if_pos (by omega)]
  rw [sg_is, sg_is, sg_is, sg_one]
  have q1 := quad1 V
  have q2 := quad2 V
  have q3 := quad3 V
  generalize sg V 262144 = a at q1 q2 q3 ⊢
  generalize sg V 4096 = b at q1 q2 q3 ⊢
  generalize sg V 64 = c at q2 q3 ⊢
  generalize sg V 1 = d at q3 ⊢
  have hl : ((out ++ [a, b, c, d]).length : Int) = (out.length : Int) + 4 := by simp
  have v2 : wrap64 (((out ++ [a, b, c, d]).length : Int) - 2) = ((out.length + 2 : Nat) : Int) := by rw [hl]; unfold wrap64; omega
  have v3 : wrap64 (((out ++ [a, b, c, d]).length : Int) - 1) = ((out.length + 3 : Nat) : Int) := by rw [hl]; unfold wrap64; omega
  rw [Option.bind_some, if_pos (by simp; omega), Option.bind_some, v2, v3, w1, w2, w3, Int.toNat_natCast, Int.toNat_natCast]
  by_cases h2 : k + 1 ≥ s.size
  · have m1 : min (s.size - k) 3 = 1 := by omega
    rw [if_pos (by omega), if_pos (by omega), if_pos (by omega), Option.bind_some, if_pos (by omega), if_pos (by omega), if_pos (by omega), set2, set3, m1, q1]
  · rw [if_neg (by omega)]
    by_cases h3 : k + 2 ≥ s.size
    · have m2 : min (s.size - k) 3 = 2 := by omega
      rw [if_pos (by omega), if_pos (by omega), if_pos (by omega), set3, m2, q2]
    · have m3 : min (s.size - k) 3 = 3 := by omega
      rw [if_neg (by omega), m3, q3]
theorem l0_step (f : Nat) (s : ByteArray) (out : List Int) (k : Nat) (hk : k < s.size) (hs : s.size ≤ 4000) (ho : out.length ≤ 100000) :
    xansi_zzBase64.l0 (f + 3) s out (k : Int) = xansi_zzBase64.l0 f s (out ++ quad (v3 ((bytesOf s).getD k 0) ((bytesOf s).getD (k + 1) 0) ((bytesOf s).getD (k + 2) 0)) (min (s.size - k) 3)) ((k + 3 : Nat) : Int) := by
  have w1 : wrap64 ((k : Int) + 1) = ((k + 1 : Nat) : Int) := by unfold wrap64; omega
  have w2 : wrap64 ((k : Int) + 2) = ((k + 2 : Nat) : Int) := by unfold wrap64; omega
  obtain ⟨r0, r1⟩ := v3_range ((bytesOf s).getD k 0) ((bytesOf s).getD (k + 1) 0) ((bytesOf s).getD (k + 2) 0)
  have hlen : (bytesOf s).length = s.size := bytesOf_length s
  have key : ∀ x5 : Int, x5 = Go.bits .or .u32 ((bytesOf s).getD k 0 % 4294967296 * 65536 % 4294967296) ((bytesOf s).getD (k + 1) 0 % 4294967296 * 256 % 4294967296) →
      xansi_zzBase64.j1 (f + 2) s out (k : Int) x5 = xansi_zzBase64.l0 f s (out ++ quad (v3 ((bytesOf s).getD k 0) ((bytesOf s).getD (k + 1) 0) ((bytesOf s).getD (k + 2) 0)) (min (s.size - k) 3)) ((k + 3 : Nat) : Int) := by
    intro x5 hx
    simp only [xansi_zzBase64.j1]
    rw [w2]
    by_cases h2 : k + 2 < s.size
    · rw [if_pos (by omega), if_pos (by omega), bt_get, hx]
      exact j2_step f s out k _ hk hs r0 r1 ho
    · have z : (bytesOf s).getD (k + 2) 0 = 0 := by rw [List.getD_eq_getElem?_getD, List.getElem?_eq_none (by omega)]; rfl
      have hr : 0 ≤ x5 ∧ x5 < 4294967296 := by
        rw [hx]
        unfold Go.bits
        simp only [IntKind.wrap_u32]
        omega
      have e : v3 ((bytesOf s).getD k 0) ((bytesOf s).getD (k + 1) 0) ((bytesOf s).getD (k + 2) 0) = x5 := by
        unfold v3
        rw [z, ← hx]
        exact or0 x5 hr.1 hr.2
      rw [if_neg (by omega), e]
      exact j2_step f s out k _ hk hs hr.1 hr.2 ho
  simp only [xansi_zzBase64.l0]
  rw [if_pos (by omega), if_pos (by omega), w1]
  by_cases h1 : k + 1 < s.size
  · rw [if_pos (by omega), if_pos (by omega), bt_get, bt_get]
    exact key _ rfl
  · have z : (bytesOf s).getD (k + 1) 0 = 0 := by rw [List.getD_eq_getElem?_getD, List.getElem?_eq_none (by omega)]; rfl
    rw [if_neg (by omega), bt_get]
    refine key _ ?_
    rw [z]
    exact (or0 _ (by omega) (by omega)).symm
theorem quad_len (V : Int) (n : Nat) : (quad V n).length = 4 := rfl
theorem zz_from (s : ByteArray) (hs : s.size ≤ 4000) : ∀ (n k : Nat) (out : List Int) (f : Nat), s.size ≤ k + 3 * n → 3 * n + 1 ≤ f → out.length ≤ 2 * k + 10 → k ≤ 4010 → xansi_zzBase64.l0 f s out (k : Int) = some (strOfNums (out ++ b64 ((bytesOf s).drop k))) := by
  have hlen : (bytesOf s).length = s.size := bytesOf_length s
  have fin : ∀ (k : Nat) (out : List Int) (f : Nat), s.size ≤ k → 1 ≤ f → xansi_zzBase64.l0 f s out (k : Int) = some (strOfNums (out ++ b64 ((bytesOf s).drop k))) := by
    intro k out f h hf
    obtain ⟨f, rfl⟩ : ∃ m, f = m + 1 := ⟨f - 1, by omega⟩
    simp only [xansi_zzBase64.l0]
    rw [if_neg (by omega), List.drop_eq_nil_of_le (by omega)]
    show _ = some (strOfNums (out ++ []))
    rw [List.append_nil]
  intro n
  induction n with
  | zero => intro k out f h hf _ _; exact fin k out f (by omega) (by omega)
  | succ n ih =>
    intro k out f h hf ho hk
    by_cases hlt : k < s.size
    · obtain ⟨f, rfl⟩ : ∃ m, f = m + 3 := ⟨f - 3, by omega⟩
      rw [l0_step f s out k hlt hs (by omega), ih (k + 3) _ f (by omega) (by omega) (by rw [List.length_append, quad_len]; omega) (by omega), b64_step (bytesOf s) k (by omega), hlen, List.append_assoc]
    · exact fin k out f (by omega) (by omega)
theorem zz (s : ByteArray) (hs : s.size ≤ 4000) (f : Nat) (hf : 5000 ≤ f) : xansi_zzBase64.f f s = some (strOfNums (b64 (bytesOf s))) := by
  unfold xansi_zzBase64.f
  have := zz_from s hs 1400 0 [] f (by omega) (by omega) (by simp) (by omega)
  simpa using this
theorem spec64 (s : ByteArray) (hs : s.size ≤ 4000) : spec_Base64.f (bytesOf s) = some (strOfNums (b64 (bytesOf s))) := by
  unfold spec_Base64.f
  rw [if_pos (by rw [bytesOf_length]; omega)]
theorem b64_len : ∀ (n : Nat) (l : List Int), l.length ≤ n → (b64 l).length ≤ 4 * n + 4 := by
  intro n
  induction n using Nat.strongRecOn with
  | _ n ih =>
    intro l hl
    match l with
    | [] => simp [b64]
    | [a] => simp [b64, quad]
    | [a, b] => simp [b64, quad]
    | a :: b :: c :: t =>
      simp only [List.length_cons] at hl
      have := ih (n - 3) (by omega) t (by omega)
      simp only [b64, List.length_append, quad_len]
      omega
theorem enc_one (c : Int) (h0 : 0 ≤ c) (h1 : c < 128) : Utf8.encode c = strOfNums [c] ∧ (strOfNums [c]).size = 1 := by
  obtain ⟨u, rfl⟩ := Int.eq_ofNat_of_zero_le h0
  have key : ((List.range 128).all fun u => ((Utf8.encode (u : Int)).data == (strOfNums [(u : Int)]).data)) = true := by decide +kernel
  have h := List.all_eq_true.1 key u (List.mem_range.2 (by omega))
  refine ⟨ByteArray.ext (by simpa using h), by rw [strOfNums_size]; rfl⟩

/-- The sequence. -/
def clip (c : Int) (d : ByteArray) : ByteArray := ((((⟨#[27, 93, 53, 50, 59]⟩ : ByteArray) ++ strOfNums [c]) ++ (⟨#[59]⟩ : ByteArray)) ++ d) ++ (⟨#[7]⟩ : ByteArray)
theorem str_nil : strOfNums [] = (⟨#[]⟩ : ByteArray) := rfl
theorem set_is (f : Nat) (hf : 5000 ≤ f) (c : Int) (h0 : 0 ≤ c) (h1 : c < 128) (s : ByteArray) (hs : s.size ≤ 4000) : xansi_SetClipboard.f f c s = some (clip c (strOfNums (b64 (bytesOf s)))) := by
  obtain ⟨e1, e2⟩ := enc_one c h0 h1
  have hb : (strOfNums (b64 (bytesOf s))).size ≤ 20000 := by
    rw [strOfNums_size]
    have := b64_len s.size (bytesOf s) (by rw [bytesOf_length]; exact Nat.le_refl _)
    omega
  unfold xansi_SetClipboard.f
  rw [e1]
  by_cases hn : s.toList = []
  · have hz : s = ⟨#[]⟩ := by
      apply ByteArray.ext
      apply Array.toList_inj.1
      rw [← ByteArray.toList_eq, hn]
    subst hz
    rw [if_pos hn, e2, if_pos (by decide), if_pos (by decide), if_pos (by decide), if_pos (by decide)]
    rfl
  · rw [if_neg hn, zz s hs f hf, Option.bind_some, e2, if_pos (by omega), if_pos (by omega), if_pos (by omega), if_pos (by omega)]
    rfl
theorem code_is (c : Int) (h1 : c < 128) : spec_madeCode.f c = some (strOfNums [c]) := by
  unfold spec_madeCode.f
  rw [if_pos h1]

theorem FnMakeClipboard : laws_FnMakeClipboard.Pure := by
  intro c n s hc hn hs
  have hc := wf_i64 hc
  have hn := wf_u8 hn
  have yes : ∀ k, laws_FnMakeClipboard.j0 (k + 1) c n s true = some true := fun k => by simp only [laws_FnMakeClipboard.j0, if_true, awake, Option.bind_some]
  refine ⟨6001, ?_⟩
  unfold laws_FnMakeClipboard.f
  by_cases hz : (s.size : Int) > 2147483647
  · rw [if_pos hz]
  rw [if_neg hz]
  by_cases c0 : c < 0
  · rw [if_pos c0]; exact yes 6000
  by_cases c4 : c > 4
  · rw [if_neg c0, if_pos c4]; exact yes 6000
  by_cases n7 : n > 127
  · rw [if_neg c0, if_neg c4, if_pos n7]; exact yes 6000
  rw [if_neg c0, if_neg c4, if_neg n7, short1 s 6001 (by omega), Option.bind_some]
  by_cases h4 : s.size ≤ 4000
  · rw [decide_eq_true h4]
    simp only [Bool.not_true, laws_FnMakeClipboard.j0, Bool.false_eq_true, if_false, awake, Option.bind_some, if_true]
    have hb : ∀ t : ByteArray, t.size ≤ 4000 → (strOfNums (b64 (bytesOf t))).size ≤ 20000 := fun t ht => by
      rw [strOfNums_size]
      have := b64_len t.size (bytesOf t) (by rw [bytesOf_length]; exact Nat.le_refl _)
      omega
    have z1 : ∀ x : Int, (strOfNums [x]).size = 1 := fun x => by rw [strOfNums_size]; rfl
    have hbs := hb s h4
    have hb0 := hb ⟨#[]⟩ (by decide)
    have hs0 : (⟨#[]⟩ : ByteArray).size = 0 := rfl
    have same : ∃ r, impl_MakeClipboard.f 6000 c n s = some r ∧ spec_MadeClipboard.f c n s = some r := by
      have hcc : c = 0 ∨ c = 1 ∨ c = 2 ∨ c = 3 ∨ c = 4 := by omega
      rcases hcc with rfl | rfl | rfl | rfl | rfl
      · refine ⟨clip n (strOfNums (b64 (bytesOf s))), ?_, ?_⟩
        · unfold impl_MakeClipboard.f
          rw [if_pos rfl, set_is 6000 (by omega) n hn.1 (by omega) s h4]
          rfl
        · unfold spec_MadeClipboard.f
          rw [if_neg (by decide), if_neg (by decide), if_neg (by decide), if_neg (by decide), code_is n (by omega), Option.bind_some, z1, if_pos (by omega), if_pos (by omega), if_pos (by omega), spec64 s h4, Option.bind_some, if_pos (by omega), if_pos (by omega)]
          rfl
      · obtain ⟨e1, e2⟩ := enc_one n hn.1 (by omega)
        refine ⟨((⟨#[27, 93, 53, 50, 59]⟩ : ByteArray) ++ strOfNums [n]) ++ (⟨#[59, 63, 7]⟩ : ByteArray), ?_, ?_⟩
        · unfold impl_MakeClipboard.f xansi_RequestClipboard.f
          rw [if_neg (by decide), if_pos rfl, e1, e2, if_pos (by omega), if_pos (by omega)]
          rfl
        · unfold spec_MadeClipboard.f
          rw [if_pos rfl, code_is n (by omega), Option.bind_some, z1, if_pos (by omega), if_pos (by omega)]
      · refine ⟨clip n (strOfNums (b64 (bytesOf ⟨#[]⟩))), ?_, ?_⟩
        · unfold impl_MakeClipboard.f xansi_ResetClipboard.f
          rw [if_neg (by decide), if_neg (by decide), if_pos rfl, set_is 6000 (by omega) n hn.1 (by omega) ⟨#[]⟩ (by decide)]
          rfl
        · unfold spec_MadeClipboard.f
          rw [if_neg (by decide), if_pos rfl, code_is n (by omega), Option.bind_some, z1, if_pos (by omega), if_pos (by omega), if_pos (by omega), spec64 ⟨#[]⟩ (by decide), Option.bind_some, if_pos (by omega), if_pos (by omega)]
          rfl
      · refine ⟨clip 99 (strOfNums (b64 (bytesOf s))), ?_, ?_⟩
        · unfold impl_MakeClipboard.f xansi_SetSystemClipboard.f
          rw [if_neg (by decide), if_neg (by decide), if_neg (by decide), if_pos rfl, set_is 6000 (by omega) 99 (by decide) (by decide) s h4]
          rfl
        · unfold spec_MadeClipboard.f
          rw [if_neg (by decide), if_neg (by decide), if_pos rfl, code_is 99 (by decide), Option.bind_some, z1, if_pos (by omega), if_pos (by omega), if_pos (by omega), spec64 s h4, Option.bind_some, if_pos (by omega), if_pos (by omega)]
          rfl
      · refine ⟨clip 112 (strOfNums (b64 (bytesOf s))), ?_, ?_⟩
        · unfold impl_MakeClipboard.f xansi_SetPrimaryClipboard.f
          rw [if_neg (by decide), if_neg (by decide), if_neg (by decide), if_neg (by decide), if_pos rfl, set_is 6000 (by omega) 112 (by decide) (by decide) s h4]
          rfl
        · unfold spec_MadeClipboard.f
          rw [if_neg (by decide), if_neg (by decide), if_neg (by decide), if_pos rfl, code_is 112 (by decide), Option.bind_some, z1, if_pos (by omega), if_pos (by omega), if_pos (by omega), spec64 s h4, Option.bind_some, if_pos (by omega), if_pos (by omega)]
          rfl
    obtain ⟨r, e1, e2⟩ := same
    rw [e1, Option.bind_some, e2, Option.bind_some]
    simp
  · rw [decide_eq_false h4]
    exact yes 6000
end Go.Proofs.YtjjkagjdbjpikaaDoor.Pure
