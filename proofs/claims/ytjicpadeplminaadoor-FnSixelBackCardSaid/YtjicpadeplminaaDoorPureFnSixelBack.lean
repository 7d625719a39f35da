/- It is proved that the law FnSixelBack answers true: what is written of raster attributes (with a Pad and a size), of a repeat (of an ASCII character that is no digit) and of a color (with a system 1 or 2) is read back whole from the text with one closing byte behind it; for all numbers from 0 to 10 to the power of 15, others are let pass; no further condition. -/
import Derived.Test.YtjicpadeplminaaDoorPEx4
import Derived.Test.YtjicpadeplminaaDoorNumsBack
namespace Go.Proofs.YtjicpadeplminaaDoor.Pure
set_option linter.unusedSimpArgs false
open Go Go.RowKit Go.Proofs.YtjicpadeplminaaDoor.PE Go.Proofs.YtjicpadeplminaaDoor.Or Go.Proofs.YtjicpadeplminaaDoor.Bld Go.Proofs.YtjicpadeplminaaDoor.Nums Go.Proofs.YtjicpadeplminaaDoorW.PrintWords Go.Proofs.YtjicpadeplminaaDoorW.PrintLast

theorem bk_wf_i64 {a : Int} (h : (Lit.int .i64 a).wf = true) : In a := by
  have h1 : (decide ((-9223372036854775808 : Int) ≤ a) && decide (a ≤ 9223372036854775807)) = true := h
  simp only [Bool.and_eq_true, decide_eq_true_eq] at h1
  exact h1
theorem bk_wf_u8 {a : Int} (h : (Lit.int .u8 a).wf = true) : 0 ≤ a ∧ a < 256 := by
  have h1 : (decide ((0 : Int) ≤ a) && decide (a ≤ 255)) = true := h
  simp only [Bool.and_eq_true, decide_eq_true_eq] at h1
  omega
theorem bo_app (a b : ByteArray) : bytesOf (a ++ b) = bytesOf a ++ bytesOf b := by simp [bytesOf, ByteArray.data_append]
theorem bo_digs (n : Nat) : bytesOf (digs (n : Int)) = DG n := by
  unfold digs DG bytesOf
  rw [Lib.itoa_nonneg]
theorem bo_txt (l : List UInt8) : bytesOf (txt l) = l.map fun c => (c.toNat : Int) := by unfold txt bytesOf; rfl
theorem bo_encode (c : Int) (h0 : 0 ≤ c) (h1 : c < 128) : bytesOf (Utf8.encode c) = [c] := by
  obtain ⟨u, rfl⟩ := Int.eq_ofNat_of_zero_le h0
  have key : ((List.range 128).all fun u => (bytesOf (Utf8.encode (u : Int)) == [(u : Int)])) = true := by decide +kernel
  have := List.all_eq_true.1 key u (List.mem_range.2 (by omega))
  simpa using this
theorem b35 : bytesOf (⟨#[35]⟩ : ByteArray) = [35] := rfl
theorem b63 : bytesOf (⟨#[63]⟩ : ByteArray) = [63] := rfl
theorem b126 : bytesOf (⟨#[126]⟩ : ByteArray) = [126] := rfl

theorem awk : ((impl_WriteRepeat.f 2 97).bind fun t => some (t.toList == ([33, 50, 97] : List UInt8))) = some true := by
  unfold impl_WriteRepeat.f
  rw [if_pos ⟨by unfold In; omega, by omega⟩]
  simp only [Option.bind_some]
  congr 1
  have e : digs 2 = txt [50] := by
    unfold digs txt
    rw [show Lib.itoa 2 = [50] by decide +kernel]
  have e2 : Utf8.encode 97 = txt [97] := by
    apply ByteArray.ext
    apply Array.toList_inj.1
    decide +kernel
  rw [e, e2]
  decide +kernel

/-- A number of the law's own bounds. -/
def Few (n : Nat) : Prop := n ≤ 1000000000000000
theorem Few.in_ {n : Nat} (h : Few n) : In (n : Int) := by unfold Few at h; unfold In; omega
theorem DGl (n : Nat) (h : Few n) : (DG n).length ≤ 20 := DG_len n (by unfold Few at h; omega)

theorem rep_step (k : Nat) (L : List Int) (i q d : Nat) (b : Int) (hi : i < L.length) (hL : L.length ≤ 1000) (hd : d < 10) (he : L[i]? = some (48 + d : Int)) (hq : q ≤ 100000000000000) :
    sixel_DecodeRepeat.l0 (k + 1) L (i : Int) (q : Int) b = sixel_DecodeRepeat.l0 k L ((i + 1 : Nat) : Int) ((q * 10 + d : Nat) : Int) b := by
  have hr : rd L (i : Int) = 48 + d := by unfold rd; simp [List.getD_eq_getElem?_getD, he]
  have e1 : wrap64 ((i : Int) + 1) = ((i + 1 : Nat) : Int) := by unfold wrap64; omega
  have e2 : wrap64 (wrap64 ((q : Int) * 10) + ((48 + d : Int) - 48) % 256) = ((q * 10 + d : Nat) : Int) := by unfold wrap64; omega
  conv => lhs; simp only [sixel_DecodeRepeat.l0]
  rw [hr, if_pos (by omega), if_pos (by omega), if_pos (by omega), if_pos (by omega), e1, e2]

theorem rep_read : ∀ (u k : Nat) (pre rest : List Int) (b : Int), u ≤ 1000000000000000 → (pre ++ DG u ++ rest).length ≤ 1000 →
    sixel_DecodeRepeat.l0 (k + (DG u).length) (pre ++ DG u ++ rest) (pre.length : Int) 0 b = sixel_DecodeRepeat.l0 k (pre ++ DG u ++ rest) ((pre.length + (DG u).length : Nat) : Int) (u : Int) b := by
  intro u
  induction u using Nat.strongRecOn with
  | _ u ih =>
    intro k pre rest b hu hl
    by_cases h : u < 10
    · have hs := rep_step k (pre ++ DG u ++ rest) pre.length 0 u b (by rw [DG_small u h]; simp) hl h (by rw [DG_small u h]; simp) (by omega)
      have e : (DG u).length = 1 := by rw [DG_small u h]; rfl
      rw [e]
      simpa using hs
    · have e : DG u = DG (u / 10) ++ [(48 + u % 10 : Int)] := DG_big u h
      have e1 : pre ++ DG u ++ rest = pre ++ DG (u / 10) ++ ([(48 + u % 10 : Int)] ++ rest) := by rw [e]; simp
      have e2 : (DG u).length = (DG (u / 10)).length + 1 := by rw [e]; simp
      have hi := ih (u / 10) (by omega) (k + 1) pre ([(48 + u % 10 : Int)] ++ rest) b (by omega) (by rw [← e1]; exact hl)
      rw [e1] at hl ⊢
      rw [e2, show k + ((DG (u / 10)).length + 1) = k + 1 + (DG (u / 10)).length by omega, hi]
      have hs := rep_step k (pre ++ DG (u / 10) ++ ([(48 + u % 10 : Int)] ++ rest)) (pre.length + (DG (u / 10)).length) (u / 10) (u % 10) b (by simp) hl (by omega)
        (by rw [List.getElem?_append_right (by simp)]; simp) (by omega)
      rw [hs, show u / 10 * 10 + u % 10 = u by omega]
      congr 1

theorem rep_back (k : Nat) (u : Nat) (c : Int) (hu : Few u) (hc0 : 0 ≤ c) (hc1 : c < 128) (hc : ¬ (48 ≤ c ∧ c ≤ 57)) :
    impl_DecodeRepeat.f (k + 40) (33 :: (DG u ++ [c, 126])) = some ((u : Int), c, (((DG u).length + 2 : Nat) : Int)) := by
  have hl := DGl u hu
  have hp := DG_pos u
  unfold impl_DecodeRepeat.f impl_own.f
  rw [if_pos (by simp; omega)]
  simp only [Option.bind_some, List.nil_append]
  unfold sixel_DecodeRepeat.f
  rw [if_neg (by simp; omega), if_pos (by simp; omega)]
  have e0 : (rd (33 :: (DG u ++ [c, 126])) 0 != 33) = false := by simp [rd]
  rw [e0]
  obtain ⟨K, hK⟩ : ∃ K, k + 40 = K + 1 + 1 + (DG u).length := ⟨k + 38 - (DG u).length, by omega⟩
  rw [show k + 40 = (k + 39) + 1 by omega]
  simp only [sixel_DecodeRepeat.j0]
  rw [if_neg (by decide), if_neg (by simp; omega)]
  have e1 : (33 :: (DG u ++ [c, 126]) : List Int) = [33] ++ DG u ++ [c, 126] := by simp
  rw [e1, show k + 39 = K + 1 + (DG u).length by omega]
  have hr := rep_read u (K + 1) [33] [c, 126] 0 hu (by simp; omega)
  simp only [List.length_singleton, Int.natCast_one] at hr
  rw [show ((1 : Int)) = ((1 : Nat) : Int) from rfl] at hr ⊢
  rw [hr]
  have hg : rd ([33] ++ DG u ++ [c, 126]) ((1 + (DG u).length : Nat) : Int) = c := by
    unfold rd
    rw [List.getD_eq_getElem?_getD, Int.toNat_natCast, List.getElem?_append_right (by simp; omega)]
    simp
    rw [show 1 + (DG u).length - ((DG u).length + 1) = 0 by omega]
    rfl
  have e2 : wrap64 (((1 + (DG u).length : Nat) : Int) + 1) = (((DG u).length + 2 : Nat) : Int) := by unfold wrap64; omega
  simp only [sixel_DecodeRepeat.l0]
  rw [hg, if_pos (by simp; omega), if_pos (by omega), e2]
  by_cases h48 : c ≥ 48
  · rw [if_pos h48, if_neg (by omega)]
    rfl
  · rw [if_neg h48]
    rfl

theorem rasT_bytes (p q r s : Nat) (hq : 0 < q) (hr : 0 < r) : bytesOf (rasT p q r s ++ ⟨#[35]⟩) = 34 :: (DG p ++ 59 :: (DG q ++ 59 :: (DG r ++ 59 :: (DG s ++ [35])))) := by
  unfold rasT rasB
  rw [if_neg (by omega), if_neg (by omega)]
  simp [bo_app, bo_digs, bo_txt, b35]
theorem colT_bytes (p q r s z : Nat) (hq : 0 < q) (hq2 : q ≤ 2) : bytesOf (colT p q r s z ++ ⟨#[63]⟩) = 35 :: (DG p ++ 59 :: (DG q ++ 59 :: (DG r ++ 59 :: (DG s ++ 59 :: (DG z ++ [63]))))) := by
  unfold colT
  rw [if_neg (by omega)]
  simp [bo_app, bo_digs, bo_txt, b63]
theorem repT_bytes (u : Nat) (c : Int) (h0 : 0 ≤ c) (h1 : c < 128) : bytesOf ((txt [33] ++ digs u) ++ Utf8.encode c ++ ⟨#[126]⟩) = 33 :: (DG u ++ [c, 126]) := by
  simp [bo_app, bo_digs, bo_txt, b126, bo_encode c h0 h1]
theorem size_one (t : ByteArray) (c : UInt8) : (t ++ (⟨#[c]⟩ : ByteArray)).size = t.size + 1 := by rw [ByteArray.size_append]; rfl

theorem ras_back (p q r s : Nat) (hp : Few p) (hq : Few q) (hr : Few r) (hs : Few s) :
    impl_DecodeRaster.f (34 :: (DG p ++ 59 :: (DG q ++ 59 :: (DG r ++ 59 :: (DG s ++ [35]))))) = some ((p : Int), (q : Int), (r : Int), (s : Int), (((DG p).length + (DG q).length + (DG r).length + (DG s).length + 4 : Nat) : Int)) := by
  have h1 := DGl p hp; have h2 := DGl q hq; have h3 := DGl r hr; have h4 := DGl s hs
  unfold impl_DecodeRaster.f impl_own.f
  rw [if_pos (by simp; omega)]
  simp only [Option.bind_some, List.nil_append]
  unfold sixel_DecodeRaster.f
  rw [if_pos (by simp; omega), rast_back p q r s hp hq hr hs 35 (by decide) (by decide)]
  simp
theorem col_back (p q r s z : Nat) (hp : Few p) (hq : Few q) (hr : Few r) (hs : Few s) (hz : Few z) :
    impl_DecodeColor.f (35 :: (DG p ++ 59 :: (DG q ++ 59 :: (DG r ++ 59 :: (DG s ++ 59 :: (DG z ++ [63])))))) = some ((p : Int), (q : Int), (r : Int), (s : Int), (z : Int), (((DG p).length + (DG q).length + (DG r).length + (DG s).length + (DG z).length + 5 : Nat) : Int)) := by
  have h1 := DGl p hp; have h2 := DGl q hq; have h3 := DGl r hr; have h4 := DGl s hs; have h5 := DGl z hz
  unfold impl_DecodeColor.f impl_own.f
  rw [if_pos (by simp; omega)]
  simp only [Option.bind_some, List.nil_append]
  unfold sixel_DecodeColor.f
  rw [if_pos (by simp; omega), colr_back p q r s z hp hq hr hs hz 63 (by decide) (by decide)]
  simp

theorem part5 (k : Nat) (b : Bool) (p q r s z : Nat) (hp : Few p) (hq : Few q) (hr : Few r) (hs : Few s) (hz : Few z) (hb : b = true → q = 1 ∨ q = 2) :
    laws_FnSixelBack.j5 (k + 1) b p q r s z = some true := by
  simp only [laws_FnSixelBack.j5]
  cases b with
  | false => rw [if_neg (by decide), awk]
  | true =>
    have hq2 := hb rfl
    rw [if_pos rfl]
    unfold impl_WriteColor.f
    rw [if_pos ⟨hp.in_, hq.in_, hr.in_, hs.in_, hz.in_⟩]
    simp only [Option.bind_some]
    have hbt := colT_bytes p q r s z (by omega) (by omega)
    have hsz : (colT p q r s z).size + 1 = (DG p).length + (DG q).length + (DG r).length + (DG s).length + (DG z).length + 6 := by
      have h := bytesOf_length (colT p q r s z ++ ⟨#[63]⟩)
      rw [hbt, size_one] at h
      simp at h
      omega
    have h1 := DGl p hp; have h2 := DGl q hq; have h3 := DGl r hr; have h4 := DGl s hs; have h5 := DGl z hz
    rw [if_pos (by omega), if_pos (by rw [size_one]; omega), hbt, col_back p q r s z hp hq hr hs hz]
    simp only [Option.bind_some]
    rw [if_neg (by simp), if_pos (by omega), awk]

theorem part4 (k : Nat) (p q r s z : Nat) (hp : Few p) (hq : Few q) (hr : Few r) (hs : Few s) (hz : Few z) :
    laws_FnSixelBack.j4 (k + 2) p q r s z = some true := by
  rw [show k + 2 = (k + 1) + 1 from rfl]
  simp only [laws_FnSixelBack.j4]
  by_cases h : (q : Int) = 1
  · rw [if_pos h]
    exact part5 k true p q r s z hp hq hr hs hz (fun _ => by omega)
  · rw [if_neg h]
    exact part5 k _ p q r s z hp hq hr hs hz (fun e => by simp at e; omega)

theorem part3 (k : Nat) (b : Bool) (u : Nat) (c : Int) (p q r s z : Nat) (hu : Few u) (hp : Few p) (hq : Few q) (hr : Few r) (hs : Few s) (hz : Few z) (h0 : 0 ≤ c) (hb : b = true → c < 128 ∧ ¬ (48 ≤ c ∧ c ≤ 57)) :
    laws_FnSixelBack.j3 (k + 41) u c b p q r s z = some true := by
  rw [show k + 41 = (k + 40) + 1 by omega]
  simp only [laws_FnSixelBack.j3]
  have h4 := part4 (k + 38) p q r s z hp hq hr hs hz
  cases b with
  | false => rw [if_neg (by decide)]; exact h4
  | true =>
    obtain ⟨hc1, hc2⟩ := hb rfl
    rw [if_pos rfl]
    unfold impl_WriteRepeat.f
    rw [if_pos ⟨hu.in_, by omega, by omega⟩]
    simp only [Option.bind_some]
    have hbt := repT_bytes u c h0 hc1
    have hsz : ((txt [33] ++ digs u) ++ Utf8.encode c).size + 1 = (DG u).length + 3 := by
      have h := bytesOf_length ((txt [33] ++ digs u) ++ Utf8.encode c ++ ⟨#[126]⟩)
      rw [hbt, size_one] at h
      simp only [List.length_cons, List.length_append, List.length_nil] at h
      omega
    have h1 := DGl u hu
    rw [if_pos (by omega), if_pos (by rw [size_one]; omega), hbt, rep_back k u c hu h0 hc1 hc2]
    simp only [Option.bind_some, if_true]
    rw [if_pos (by omega)]
    exact h4

theorem part2 (k : Nat) (u : Nat) (c : Int) (p q r s z : Nat) (hu : Few u) (hp : Few p) (hq : Few q) (hr : Few r) (hs : Few s) (hz : Few z) (h0 : 0 ≤ c) :
    laws_FnSixelBack.j2 (k + 42) u c p q r s z = some true := by
  rw [show k + 42 = (k + 41) + 1 from rfl]
  simp only [laws_FnSixelBack.j2]
  by_cases h1 : c < 128
  · rw [if_pos h1]
    by_cases h2 : c < 48
    · rw [if_pos h2]
      exact part3 k true u c p q r s z hu hp hq hr hs hz h0 (fun _ => by omega)
    · rw [if_neg h2]
      exact part3 k _ u c p q r s z hu hp hq hr hs hz h0 (fun e => by simp at e; omega)
  · rw [if_neg h1]
    exact part3 k false u c p q r s z hu hp hq hr hs hz h0 (fun e => by cases e)

theorem part1 (k : Nat) (b : Bool) (u : Nat) (c : Int) (x y v t p q r s z : Nat) (hx : Few x) (hy : Few y) (hv : Few v) (ht : Few t) (hu : Few u) (hp : Few p) (hq : Few q) (hr : Few r) (hs : Few s) (hz : Few z) (h0 : 0 ≤ c) (hb : b = true → 0 < y ∧ 0 < v) :
    laws_FnSixelBack.j1 (k + 43) u c b x y v t p q r s z = some true := by
  rw [show k + 43 = (k + 42) + 1 from rfl]
  simp only [laws_FnSixelBack.j1]
  have h2 := part2 k u c p q r s z hu hp hq hr hs hz h0
  cases b with
  | false => rw [if_neg (by decide)]; exact h2
  | true =>
    obtain ⟨hy1, hv1⟩ := hb rfl
    rw [if_pos rfl]
    unfold impl_WriteRaster.f
    rw [if_pos ⟨hx.in_, hy.in_, hv.in_, ht.in_⟩]
    simp only [Option.bind_some]
    have hbt := rasT_bytes x y v t hy1 hv1
    have hsz : (rasT x y v t).size + 1 = (DG x).length + (DG y).length + (DG v).length + (DG t).length + 5 := by
      have h := bytesOf_length (rasT x y v t ++ ⟨#[35]⟩)
      rw [hbt, size_one] at h
      simp at h
      omega
    have h1 := DGl x hx; have h2' := DGl y hy; have h3 := DGl v hv; have h4 := DGl t ht
    rw [if_pos (by omega), if_pos (by rw [size_one]; omega), hbt, ras_back x y v t hx hy hv ht]
    simp only [Option.bind_some]
    rw [if_neg (by simp), if_pos (by omega)]
    exact h2

theorem scan (k : Nat) (a1 a2 x0 x1 x2 x3 y0 y1 y2 y3 y4 : Int) (L : List Int) (hL : L.length = 10) : ∀ (d i : Nat), i + d = 10 →
    laws_FnSixelBack.l0 (k + 1 + d) a1 a2 L (L.length : Int) (i : Int) x0 x1 x2 x3 y0 y1 y2 y3 y4 = some true ∨
    ((∀ j : Nat, i ≤ j → j < 10 → 0 ≤ L.getD j 0 ∧ L.getD j 0 ≤ 1000000000000000) ∧ laws_FnSixelBack.l0 (k + 1 + d) a1 a2 L (L.length : Int) (i : Int) x0 x1 x2 x3 y0 y1 y2 y3 y4 = laws_FnSixelBack.l0 (k + 1) a1 a2 L (L.length : Int) 10 x0 x1 x2 x3 y0 y1 y2 y3 y4) := by
  intro d
  induction d with
  | zero =>
    intro i hi
    obtain rfl : i = 10 := by omega
    exact Or.inr ⟨fun j h1 h2 => by omega, rfl⟩
  | succ d ih =>
    intro i hi
    have e1 : wrap64 ((i : Int) + 1) = ((i + 1 : Nat) : Int) := by unfold wrap64; omega
    have hr : rd L (i : Int) = L.getD i 0 := rfl
    obtain ⟨K, hK⟩ : ∃ K, K = k + 1 + d := ⟨_, rfl⟩
    rw [← hK] at ih
    rw [show k + 1 + (d + 1) = K + 1 by omega]
    obtain ⟨Q, hQ⟩ : ∃ Q, Q = laws_FnSixelBack.l0 (k + 1) a1 a2 L (L.length : Int) 10 x0 x1 x2 x3 y0 y1 y2 y3 y4 := ⟨_, rfl⟩
    rw [← hQ] at ih ⊢
    simp only [laws_FnSixelBack.l0]
    rw [hr, e1, if_pos (by omega), if_pos (by omega), if_pos (by omega)]
    by_cases h1 : L.getD i 0 < 0
    · rw [if_pos h1, awk]; exact Or.inl rfl
    · rw [if_neg h1]
      by_cases h2 : L.getD i 0 > 1000000000000000
      · rw [if_pos h2, awk]; exact Or.inl rfl
      · rw [if_neg h2]
        rcases ih (i + 1) (by omega) with h | ⟨h3, h4⟩
        · exact Or.inl h
        · refine Or.inr ⟨fun j h5 h6 => ?_, h4⟩
          by_cases h7 : j = i
          · subst h7; omega
          · exact h3 j (by omega) h6

theorem FnSixelBack (x0 x1 x2 x3 a1 a2 y0 y1 y2 y3 y4 : Int) (g0 : (Lit.int .i64 x0).wf = true) (g1 : (Lit.int .i64 x1).wf = true) (g2 : (Lit.int .i64 x2).wf = true) (g3 : (Lit.int .i64 x3).wf = true) (g4 : (Lit.int .i64 a1).wf = true) (g5 : (Lit.int .u8 a2).wf = true) (g6 : (Lit.int .i64 y0).wf = true) (g7 : (Lit.int .i64 y1).wf = true) (g8 : (Lit.int .i64 y2).wf = true) (g9 : (Lit.int .i64 y3).wf = true) (g10 : (Lit.int .i64 y4).wf = true) :
    ∃ k, laws_FnSixelBack.f k x0 x1 x2 x3 a1 a2 y0 y1 y2 y3 y4 = some true := by
  obtain ⟨c0, _⟩ := bk_wf_u8 g5
  refine ⟨43 + 1 + 10, ?_⟩
  unfold laws_FnSixelBack.f
  simp only [Option.bind_some]
  obtain ⟨L, hL⟩ : ∃ L : List Int, L = [x0, x1, x2, x3, a1, y0, y1, y2, y3, y4] := ⟨_, rfl⟩
  rw [← hL]
  rcases scan 43 a1 a2 x0 x1 x2 x3 y0 y1 y2 y3 y4 L (by rw [hL]; rfl) 10 0 rfl with h | ⟨h1, h2⟩
  · exact h
  · rw [show ((0 : Int)) = ((0 : Nat) : Int) from rfl, h2]
    have f0 := h1 0 (by omega) (by omega); have f1 := h1 1 (by omega) (by omega); have f2 := h1 2 (by omega) (by omega); have f3 := h1 3 (by omega) (by omega); have f4 := h1 4 (by omega) (by omega)
    have f5 := h1 5 (by omega) (by omega); have f6 := h1 6 (by omega) (by omega); have f7 := h1 7 (by omega) (by omega); have f8 := h1 8 (by omega) (by omega); have f9 := h1 9 (by omega) (by omega)
    subst hL
    simp only [List.getD_cons_zero, List.getD_cons_succ] at f0 f1 f2 f3 f4 f5 f6 f7 f8 f9
    obtain ⟨n0, rfl⟩ := Int.eq_ofNat_of_zero_le f0.1; obtain ⟨n1, rfl⟩ := Int.eq_ofNat_of_zero_le f1.1; obtain ⟨n2, rfl⟩ := Int.eq_ofNat_of_zero_le f2.1; obtain ⟨n3, rfl⟩ := Int.eq_ofNat_of_zero_le f3.1
    obtain ⟨n4, rfl⟩ := Int.eq_ofNat_of_zero_le f4.1
    obtain ⟨n5, rfl⟩ := Int.eq_ofNat_of_zero_le f5.1; obtain ⟨n6, rfl⟩ := Int.eq_ofNat_of_zero_le f6.1; obtain ⟨n7, rfl⟩ := Int.eq_ofNat_of_zero_le f7.1; obtain ⟨n8, rfl⟩ := Int.eq_ofNat_of_zero_le f8.1; obtain ⟨n9, rfl⟩ := Int.eq_ofNat_of_zero_le f9.1
    have q0 : Few n0 := by unfold Few; omega
    have q1 : Few n1 := by unfold Few; omega
    have q2 : Few n2 := by unfold Few; omega
    have q3 : Few n3 := by unfold Few; omega
    have q4 : Few n4 := by unfold Few; omega
    have q5 : Few n5 := by unfold Few; omega
    have q6 : Few n6 := by unfold Few; omega
    have q7 : Few n7 := by unfold Few; omega
    have q8 : Few n8 := by unfold Few; omega
    have q9 : Few n9 := by unfold Few; omega
    obtain ⟨K, hK⟩ : ∃ K : Nat, K = 43 := ⟨_, rfl⟩
    rw [← hK]
    simp only [laws_FnSixelBack.l0]
    rw [if_neg (by simp)]
    rw [show K = 0 + 43 by omega]
    by_cases hc : (n1 : Int) > 0
    · rw [if_pos hc]
      exact part1 0 _ n4 a2 n0 n1 n2 n3 n5 n6 n7 n8 n9 q0 q1 q2 q3 q4 q5 q6 q7 q8 q9 c0 (fun e => by simp at e; omega)
    · rw [if_neg hc]
      exact part1 0 false n4 a2 n0 n1 n2 n3 n5 n6 n7 n8 n9 q0 q1 q2 q3 q4 q5 q6 q7 q8 q9 c0 (fun e => by cases e)

end Go.Proofs.YtjicpadeplminaaDoor.Pure
