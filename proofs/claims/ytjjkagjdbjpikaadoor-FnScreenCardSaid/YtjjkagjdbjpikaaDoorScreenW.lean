/- What ScreenPassthrough makes, by hand: pieces of so many bytes, each passed through, put into a buffer one behind the other. -/
import Derived.Test.YtjjkagjdbjpikaaDoorBufA
import Derived.KernelRfl
import Derived.Lib.Hide
import Derived.Laws.Strings2
import Derived.Deep.LoopGhost
import Derived.Test.YtjjkagjdbjpikaaDoorWWords
import Derived.Test.YtjjkagjdbjpikaaDoorWLast
import Derived.Test.YtjjkagjdbjpikaaDoorWMore
namespace Go.Proofs.YtjjkagjdbjpikaaDoor.Or
open Go Go.RowKit Go.Proofs.YtjjkagjdbjpikaaDoor.Buf Go.Proofs.YtjjkagjdbjpikaaDoorW.PrintWords Go.Proofs.YtjjkagjdbjpikaaDoorW.PrintLast Go.Proofs.YtjjkagjdbjpikaaDoorW.PrintMore
attribute [local go_sem] min2_int

/-- The pieces from place i on. -/
def chunks (s : ByteArray) (L : Nat) : Nat → Nat → ByteArray
  | 0, _ => ByteArray.empty
  | f + 1, i => if i < s.size then (if i + L < s.size then s.extract i (i + L) ++ (⟨#[27, 92, 27, 80]⟩ ++ chunks s L f (i + L)) else s.extract i s.size) else ByteArray.empty
def screenT (s : ByteArray) (lim : Int) : ByteArray := (⟨#[27, 80]⟩ : ByteArray) ++ ((if 0 < lim then chunks s lim.toNat s.size 0 else s) ++ ⟨#[27, 92]⟩)

set_option maxHeartbeats 4000000 in
theorem screen_none (s : ByteArray) (lim : Int) (h0 : lim ≤ 0) (w : World) (hs : s.size ≤ 140737488000000) :
    Calls Tryd.prog 52 #[.string s, .int .i64 lim] w fun e w' => e = .returned (.string ((⟨#[27, 80]⟩ : ByteArray) ++ s ++ ⟨#[27, 92]⟩)) ∧ Below w.heap.size w w' := by
  have t0 : decide (0 < lim) = false := decide_eq_false (by omega)
  have H0 := Lib.hid (fresh w)
  have l1 : (ByteArray.empty ++ (⟨#[27, 80]⟩ : ByteArray)).size = 2 := by decide
  go_enter Tryd.func52, Tryd.ntmps52
  go_wp2_with fail
  refine (ws w _ _ _ H0.out (by decide)).mono ?_
  rintro e w1 ⟨rfl, h1⟩
  have H1 := Lib.hid h1; clear h1
  go_wp2_with fail
  refine (ws w _ _ _ H1.out (by rw [l1]; omega)).mono ?_
  rintro e w2 ⟨rfl, h2⟩
  have H2 := Lib.hid h2; clear h2
  go_wp2_with fail
  refine (ws w _ _ _ H2.out (by rw [ByteArray.size_append, l1]; show 2 + s.size + 2 ≤ _; omega)).mono ?_
  rintro e w3 ⟨rfl, h3⟩
  have H3 := Lib.hid h3; clear h3
  go_wp2_with fail
  refine (str w _ _ H3.out).mono ?_
  rintro e w4 ⟨rfl, h4⟩
  have H4 := Lib.hid h4; clear h4
  go_wp2
  go_ret
  exact ⟨by congr 2, H4.out⟩

theorem app_empty (a : ByteArray) : a ++ ByteArray.empty = a := by apply ByteArray.ext; simp
theorem app_assoc (a b c : ByteArray) : a ++ b ++ c = a ++ (b ++ c) := by apply ByteArray.ext; simp [ByteArray.data_append]

theorem cut (s : ByteArray) (i j : Nat) (J : Int) (hJ : J = j) (h1 : i ≤ j) (h2 : j ≤ s.size) (W : World) : (Instr.slice 9 (.string s) (some (.int .i64 i)) (some (.int .i64 J)) none).run Tryd.prog W = .ok (.string (s.extract i j)) W := by
  subst hJ
  have h := run_slice_string (P := Tryd.prog) W 9 s .i64 .i64 i j Tryd.underlying9 (by omega) (by omega) (by omega)
  simpa using h
theorem chunks_end (s : ByteArray) (L f k : Nat) (h : ¬ k < s.size) : chunks s L f k = ByteArray.empty := by
  cases f with
  | zero => rfl
  | succ f => unfold chunks; rw [if_neg h]
theorem chunks_last (s : ByteArray) (L f k : Nat) (h : k < s.size) (h2 : ¬ k + L < s.size) : chunks s L (f + 1) k = s.extract k s.size := by
  conv => lhs; unfold chunks
  rw [if_pos h, if_neg h2]
theorem chunks_more (s : ByteArray) (L f k : Nat) (h : k < s.size) (h2 : k + L < s.size) : chunks s L (f + 1) k = s.extract k (k + L) ++ (⟨#[27, 92, 27, 80]⟩ ++ chunks s L f (k + L)) := by
  conv => lhs; unfold chunks
  rw [if_pos h, if_pos h2]

set_option maxHeartbeats 8000000 in
set_option maxRecDepth 100000 in
theorem screen_some (s : ByteArray) (L : Nat) (h0 : 1 ≤ L) (h1 : L ≤ 9223372036854775807) (w : World) (hs : s.size ≤ 140737488000000) (hT : ((⟨#[27, 80]⟩ : ByteArray) ++ (chunks s L s.size 0 ++ ⟨#[27, 92]⟩)).size ≤ 140737488000000) :
    Calls Tryd.prog 52 #[.string s, .int .i64 L] w fun e w' => e = .returned (.string ((⟨#[27, 80]⟩ : ByteArray) ++ (chunks s L s.size 0 ++ ⟨#[27, 92]⟩))) ∧ Below w.heap.size w w' := by
  have t0 : decide (0 < (L : Int)) = true := decide_eq_true (by omega)
  have t0' : decide (0 < L) = true := decide_eq_true (by omega)
  have HF := Lib.hid (fresh w)
  obtain ⟨T, hTT⟩ : ∃ T, T = (⟨#[27, 80]⟩ : ByteArray) ++ chunks s L s.size 0 := ⟨_, rfl⟩
  have hTe : (⟨#[27, 80]⟩ : ByteArray) ++ (chunks s L s.size 0 ++ ⟨#[27, 92]⟩) = T ++ ⟨#[27, 92]⟩ := by rw [hTT, app_assoc]
  rw [hTe] at hT ⊢
  have hT2 : T.size + 2 ≤ 140737488000000 := by rw [ByteArray.size_append] at hT; exact hT
  have HTT := Lib.hid hTT
  clear hTT hTe hT
  go_enter Tryd.func52, Tryd.ntmps52
  go_wp2_with fail
  refine (ws w _ _ _ HF.out (by decide)).mono ?_
  rintro e w1 ⟨rfl, h1⟩
  have H1 := Lib.hid h1; clear h1
  go_wp2_with fail
  go_loopw [6] (fun i wr => ∃ (k f : Nat) (acc : ByteArray), i = .int .i64 k ∧ s.size ≤ k + f ∧ (k = 0 ∨ L ≤ k) ∧ Hid (T = acc ++ chunks s L f k) ∧ Hid (Buf w acc wr)) (fun i _ => s.size - (intOf i).toNat)
  case atStart => exact ⟨0, s.size, _, rfl, by omega, Or.inl rfl, Lib.hid (by rw [HTT.out]; rfl), H1⟩
  case round =>
    obtain ⟨k, f, acc, rfl, hf, hk, HA, HB⟩ := hrel
    have hsz : acc.size + (chunks s L f k).size = T.size := by rw [HA.out, ByteArray.size_append]
    by_cases hlt : k < s.size
    · have hkL : k + L ≤ 9223372036854775807 := by omega
      obtain ⟨f', rfl⟩ : ∃ f', f = f' + 1 := ⟨f - 1, by omega⟩
      by_cases h2 : k + L < s.size
      · have hmm : min ((k : Int) + (L : Int)) (s.size : Int) = (k : Int) + (L : Int) := by omega
        have hx : (s.extract k (k + L)).size = L := by rw [ByteArray.size_extract]; omega
        have hch := chunks_more s L f' k hlt h2
        have hsz2 : acc.size + (L + (4 + (chunks s L f' (k + L)).size)) = T.size := by
          rw [hch, ByteArray.size_append, ByteArray.size_append, hx] at hsz
          exact hsz
        have HCH := Lib.hid hch
        clear hsz hch
        have hct := cut s k (k + L) ((k : Int) + (L : Int)) (by omega) (by omega) (by omega)
        go_wp2_with fail
        refine (ws w _ _ _ HB.out (by rw [hx]; omega)).mono ?_
        rintro e w2 ⟨rfl, hb2⟩
        have H2 := Lib.hid hb2; clear hb2
        go_wp2_with fail
        refine (ws w _ _ _ H2.out (by rw [ByteArray.size_append, hx]; show acc.size + L + 4 ≤ _; omega)).mono ?_
        rintro e w3 ⟨rfl, hb3⟩
        have H3 := Lib.hid hb3; clear hb3
        go_wp2
        go_roundw
        case rel => exact ⟨k + L, f', _, by go_num, by omega, Or.inr (by omega), Lib.hid (by rw [HA.out, HCH.out, app_assoc, app_assoc]), H3⟩
        case measure => simp [intOf]; omega
      · have hx : (s.extract k s.size).size = s.size - k := by rw [ByteArray.size_extract]; omega
        have hch := chunks_last s L f' k hlt h2
        have hsz2 : acc.size + (s.size - k) = T.size := by rw [hch, hx] at hsz; exact hsz
        have HCH := Lib.hid hch
        clear hsz hch
        by_cases h3 : s.size < k + L
        · have hmm : min ((k : Int) + (L : Int)) (s.size : Int) = (s.size : Int) := by omega
          have hct := cut s k s.size (s.size : Int) rfl (by omega) (by omega)
          go_wp2_with fail
          refine (ws w _ _ _ HB.out (by rw [hx]; omega)).mono ?_
          rintro e w2 ⟨rfl, hb2⟩
          have H2 := Lib.hid hb2; clear hb2
          go_wp2
          go_roundw
          case rel => exact ⟨k + L, 0, _, by go_num, by omega, Or.inr (by omega), Lib.hid (by rw [HA.out, HCH.out]; exact (app_empty _).symm), H2⟩
          case measure => simp [intOf]; omega
        · have hmm : min ((k : Int) + (L : Int)) (s.size : Int) = (k : Int) + (L : Int) := by omega
          have he : s.size = k + L := by omega
          have hx2 : (s.extract k (k + L)).size = L := by rw [ByteArray.size_extract]; omega
          have hct := cut s k (k + L) ((k : Int) + (L : Int)) (by omega) (by omega) (by omega)
          have HE := Lib.hid he
          clear he
          go_wp2_with fail
          refine (ws w _ _ _ HB.out (by rw [hx2]; omega)).mono ?_
          rintro e w2 ⟨rfl, hb2⟩
          have H2 := Lib.hid hb2; clear hb2
          go_wp2
          go_roundw
          case rel => exact ⟨k + L, 0, _, by go_num, by omega, Or.inr (by omega), Lib.hid (by rw [HA.out, HCH.out, HE.out]; exact (app_empty _).symm), H2⟩
          case measure => simp [intOf]; omega
    · have hch := chunks_end s L f k hlt
      have HT2 : Hid (T = acc) := Lib.hid (by rw [HA.out, hch]; exact app_empty _)
      have hsa : acc.size = T.size := by rw [HT2.out]
      clear hch hsz
      go_wp2_with fail
      refine (ws w _ _ _ HB.out (by show acc.size + 2 ≤ _; omega)).mono ?_
      rintro e w2 ⟨rfl, hb2⟩
      have H2 := Lib.hid hb2; clear hb2
      go_wp2_with fail
      refine (str w _ _ H2.out).mono ?_
      rintro e w4 ⟨rfl, h4⟩
      have H4 := Lib.hid h4; clear h4
      go_wp2
      go_ret
      have hfin : Ending.returned (Value.string (acc ++ (⟨#[27, 92]⟩ : ByteArray))) = Ending.returned (Value.string (T ++ ⟨#[27, 92]⟩)) := by rw [HT2.out]
      exact ⟨hfin, H4.out⟩

def xansi_ScreenPassthrough.f (s : ByteArray) (lim : Int) : Option ByteArray := if s.size ≤ 140737488000000 ∧ lim ≤ 9223372036854775807 ∧ (screenT s lim).size ≤ 140737488000000 then some (screenT s lim) else none
theorem xansi_ScreenPassthrough.calls (s : ByteArray) (lim : Int) (r : ByteArray) (w : World) (h : xansi_ScreenPassthrough.f s lim = some r) :
    Calls Tryd.prog 52 #[.string s, .int .i64 lim] w fun e w' => e = .returned (.string r) ∧ Below w.heap.size w w' := by
  unfold xansi_ScreenPassthrough.f at h
  split at h
  · rename_i hr
    obtain ⟨h0, h1, h2⟩ := hr
    obtain rfl := Option.some.inj h
    clear h
    unfold screenT at h2 ⊢
    by_cases h3 : 0 < lim
    · rw [if_pos h3] at h2 ⊢
      obtain ⟨L, rfl⟩ := Int.eq_ofNat_of_zero_le (Int.le_of_lt h3)
      exact screen_some s L (by omega) (by omega) w h0 h2
    · rw [if_neg h3] at h2 ⊢
      rw [← app_assoc]
      exact screen_none s lim (by omega) w h0
  · cases h
end Go.Proofs.YtjjkagjdbjpikaaDoor.Or
