/- What TmuxPassthrough makes, by hand: each ESC stands twice. -/
import Derived.Test.YtjjkagjdbjpikaaGreatDoorBufB
import Derived.KernelRfl
import Derived.Lib.Hide
import Derived.Laws.Strings2
import Derived.Deep.LoopGhost
import Derived.Test.YtjjkagjdbjpikaaGreatDoorWWords
import Derived.Test.YtjjkagjdbjpikaaGreatDoorWLast
import Derived.Test.YtjjkagjdbjpikaaGreatDoorWMore
namespace Go.Proofs.YtjjkagjdbjpikaaGreatDoor.Or
open Go Go.RowKit Go.Proofs.YtjjkagjdbjpikaaGreatDoor.Buf Go.Proofs.YtjjkagjdbjpikaaGreatDoorW.PrintWords Go.Proofs.YtjjkagjdbjpikaaGreatDoorW.PrintLast Go.Proofs.YtjjkagjdbjpikaaGreatDoorW.PrintMore

/-- Each ESC twice. -/
def dbl : List UInt8 → List UInt8
  | [] => []
  | c :: t => if c = 27 then 27 :: 27 :: dbl t else c :: dbl t
def dblB (l : List UInt8) : ByteArray := ⟨(dbl l).toArray⟩
def tmuxT (s : ByteArray) : ByteArray := (⟨#[27, 80, 116, 109, 117, 120, 59]⟩ : ByteArray) ++ (dblB s.data.toList ++ ⟨#[27, 92]⟩)

theorem tapp_assoc (a b c : ByteArray) : a ++ b ++ c = a ++ (b ++ c) := by apply ByteArray.ext; simp [ByteArray.data_append]
theorem dblB_nil : dblB [] = ByteArray.empty := rfl
theorem dblB_esc (t : List UInt8) : dblB (27 :: t) = (⟨#[27]⟩ : ByteArray) ++ ((⟨#[27]⟩ : ByteArray) ++ dblB t) := by
  apply ByteArray.ext
  simp [dblB, dbl, ByteArray.data_append]
theorem dblB_other (c : UInt8) (t : List UInt8) (h : c ≠ 27) : dblB (c :: t) = (⟨#[c]⟩ : ByteArray) ++ dblB t := by
  apply ByteArray.ext
  simp [dblB, dbl, ByteArray.data_append, h]
theorem dbl_len (l : List UInt8) : (dbl l).length ≤ 2 * l.length := by
  induction l with
  | nil => simp [dbl]
  | cons c t ih =>
    unfold dbl
    split
    · simp; omega
    · simp; omega

set_option maxHeartbeats 8000000 in
set_option maxRecDepth 100000 in
theorem tmux_walk (s : ByteArray) (w : World) (hs : s.size ≤ 1000000) :
    Calls Tryz.prog 26 #[.string s] w fun e w' => e = .returned (.string (tmuxT s)) ∧ Below w.heap.size w w' := by
  have HF := Lib.hid (fresh w)
  obtain ⟨T, hTT⟩ : ∃ T, T = (⟨#[27, 80, 116, 109, 117, 120, 59]⟩ : ByteArray) ++ dblB s.data.toList := ⟨_, rfl⟩
  have hTe : tmuxT s = T ++ ⟨#[27, 92]⟩ := by rw [hTT, tapp_assoc]; rfl
  rw [hTe]
  have hT2 : T.size + 2 ≤ 140737488000000 := by
    have h1 : (dblB s.data.toList).size = (dbl s.data.toList).length := List.size_toArray
    have h2 := dbl_len s.data.toList
    have h3 : s.data.toList.length = s.size := Array.length_toList
    rw [hTT, ByteArray.size_append, h1]
    show 7 + _ + 2 ≤ _
    omega
  have HTT := Lib.hid hTT
  clear hTT hTe
  go_enter Tryz.func26, Tryz.ntmps26
  go_wp2_with fail
  refine (ws w _ _ _ HF.out (by decide)).mono ?_
  rintro e w1 ⟨rfl, h1⟩
  have H1 := Lib.hid h1; clear h1
  go_wp2_with fail
  go_loopw [8] (fun i wr => ∃ (k : Nat) (acc : ByteArray), i = .int .i64 k ∧ k ≤ s.size ∧ Hid (T = acc ++ dblB (s.data.toList.drop k)) ∧ Hid (Buf w acc wr)) (fun i _ => s.size - (intOf i).toNat)
  case atStart => exact ⟨0, _, rfl, by omega, Lib.hid (by rw [HTT.out]; rfl), H1⟩
  case round =>
    obtain ⟨k, acc, rfl, hk, HA, HB⟩ := hrel
    by_cases hlt : k < s.size
    · have tlt : decide ((k : Int) < (s.size : Int)) = true := decide_eq_true (by omega)
      have hll : k < s.data.toList.length := by rw [Array.length_toList]; exact hlt
      have hd : s.data.toList.drop k = s.data.toList[k] :: s.data.toList.drop (k + 1) := List.drop_eq_getElem_cons hll
      obtain ⟨c, hc⟩ : ∃ c, c = s.data.toList[k] := ⟨_, rfl⟩
      have hk0 : (0 : Int) ≤ (k : Int) := by omega
      have hbx : ∀ h : (k : Int).toNat < s.size, ((s[(k : Int).toNat]'h).toNat : Int) = (c.toNat : Int) := fun h => by rw [hc]; rfl
      have hby : ∀ h : k < s.size, ((s[k]'h).toNat : Int) = (c.toNat : Int) := fun h => by rw [hc]; rfl
      have HD : Hid (s.data.toList.drop k = c :: s.data.toList.drop (k + 1)) := Lib.hid (by rw [hc]; exact hd)
      clear hd hc
      by_cases h27 : c = 27
      · subst h27
        have HE := Lib.hid (show T = acc ++ ((⟨#[27]⟩ : ByteArray) ++ ((⟨#[27]⟩ : ByteArray) ++ dblB (s.data.toList.drop (k + 1)))) by rw [HA.out, HD.out, dblB_esc])
        have hsz : acc.size + (1 + (1 + (dblB (s.data.toList.drop (k + 1))).size)) = T.size := by rw [HE.out, ByteArray.size_append, ByteArray.size_append, ByteArray.size_append]; rfl
        have hcc : ((27 : UInt8).toNat : Int) = 27 := rfl
        rw [hcc] at hbx hby
        clear hcc
        go_wp2_with fail
        refine (wb w _ 27 27 rfl _ HB.out (by omega)).mono ?_
        rintro e w2 ⟨rfl, hb2⟩
        have H2 := Lib.hid hb2; clear hb2
        go_wp2_with fail
        refine (wb w _ 27 27 rfl _ H2.out (by rw [ByteArray.size_append]; show acc.size + 1 + 1 ≤ _; omega)).mono ?_
        rintro e w3 ⟨rfl, hb3⟩
        have H3 := Lib.hid hb3; clear hb3
        go_wp2
        go_roundw
        case rel => exact ⟨k + 1, _, by go_num, by omega, Lib.hid (by rw [HE.out, tapp_assoc, tapp_assoc]), H3⟩
        case measure => simp [intOf]; omega
      · have HE := Lib.hid (show T = acc ++ ((⟨#[c]⟩ : ByteArray) ++ dblB (s.data.toList.drop (k + 1))) by rw [HA.out, HD.out, dblB_other _ _ h27])
        have hsz : acc.size + (1 + (dblB (s.data.toList.drop (k + 1))).size) = T.size := by rw [HE.out, ByteArray.size_append, ByteArray.size_append]; rfl
        obtain ⟨C, hC⟩ : ∃ C : Int, C = (c.toNat : Int) := ⟨_, rfl⟩
        rw [← hC] at hbx hby
        have hne : ¬ C = 27 := by
          intro e
          apply h27
          apply UInt8.toNat_inj.1
          rw [hC] at e
          have : c.toNat = 27 := by omega
          rw [this]; rfl
        have t27 : (C == 27) = false := by simpa using hne
        have t27' : decide (C = 27) = false := decide_eq_false hne
        have HC := Lib.hid hC
        clear hC
        go_wp2_with fail
        refine (wb w _ c C HC.out _ HB.out (by omega)).mono ?_
        rintro e w2 ⟨rfl, hb2⟩
        have H2 := Lib.hid hb2; clear hb2
        go_wp2
        go_roundw
        case rel => exact ⟨k + 1, _, by go_num, by omega, Lib.hid (by rw [HE.out, tapp_assoc]), H2⟩
        case measure => simp [intOf]; omega
    · have tlt : decide ((k : Int) < (s.size : Int)) = false := decide_eq_false (by omega)
      have hd : s.data.toList.drop k = [] := List.drop_eq_nil_of_le (by rw [Array.length_toList]; show s.size ≤ k; omega)
      have HT2 : Hid (T = acc) := Lib.hid (by rw [HA.out, hd]; apply ByteArray.ext; simp [dblB_nil])
      have hsa : acc.size = T.size := by rw [HT2.out]
      clear hd
      go_wp2_with fail
      refine (ws w _ _ _ HB.out (by show acc.size + 2 ≤ _; omega)).mono ?_
      rintro e w2 ⟨rfl, hb2⟩
      have H2 := Lib.hid hb2; clear hb2
      go_wp2_with fail
      refine (str w _ _ H2.out).mono ?_
      rintro e w4 ⟨rfl, h4⟩
      have H4 := Lib.hid h4; clear h4
      go_wp2
      go_ret
      have hfin : Ending.returned (Value.string (acc ++ (⟨#[27, 92]⟩ : ByteArray))) = Ending.returned (Value.string (T ++ ⟨#[27, 92]⟩)) := by rw [HT2.out]
      exact ⟨hfin, H4.out⟩

def xansi_TmuxPassthrough.f (s : ByteArray) : Option ByteArray := if s.size ≤ 1000000 then some (tmuxT s) else none
theorem xansi_TmuxPassthrough.calls (s : ByteArray) (r : ByteArray) (w : World) (h : xansi_TmuxPassthrough.f s = some r) :
    Calls Tryz.prog 26 #[.string s] w fun e w' => e = .returned (.string r) ∧ Below w.heap.size w w' := by
  unfold xansi_TmuxPassthrough.f at h
  split at h
  · rename_i hr
    obtain rfl := Option.some.inj h
    exact tmux_walk s w hr
  · cases h
end Go.Proofs.YtjjkagjdbjpikaaGreatDoor.Or
