/- What SixelGraphics makes, by hand: up to three numbers and the payload, put into a buffer. -/
import Derived.Test.YtplmmblofhhikaaDoorBufB
import Derived.Test.YtplmmblofhhikaaDoorBufC
import Derived.Test.YtplmmblofhhikaaDoorBufN
import Derived.Lib.ItoaLen
import Derived.Deep.DeepCutAuto
import Derived.Deep.CutBlock
import Derived.Test.YtplmmblofhhikaaDoorWWords
import Derived.Test.YtplmmblofhhikaaDoorWLast
namespace Go.Proofs.YtplmmblofhhikaaDoor.Or
open Go Go.RowKit Go.Proofs.YtplmmblofhhikaaDoor.Buf Go.Proofs.YtplmmblofhhikaaDoorW.PrintWords Go.Proofs.YtplmmblofhhikaaDoorW.PrintLast

def In64 (n : Int) : Prop := -9223372036854775808 ≤ n ∧ n ≤ 9223372036854775807
instance (n : Int) : Decidable (In64 n) := by unfold In64; infer_instance
def dgs (n : Int) : ByteArray := ⟨(Lib.itoa n).toArray⟩
theorem dgs_size (n : Int) (h : In64 n) : (dgs n).size ≤ 21 := by
  have := Lib.itoa_length_le n h.1 h.2
  show (Lib.itoa n).toArray.size ≤ 21
  simpa using this
theorem itoa64 (n : Int) (h : In64 n) (w : World) (hLD : Laid w) :
    Calls Tryd.prog 109 #[.int .i64 n] w fun e w' => e = .returned (.string (dgs n)) ∧ Below w.heap.size w w' :=
  strconv_Itoa.calls n (dgs n) w hLD (by unfold strconv_Itoa.f; rw [if_pos (show _ ∧ _ from h)]; rfl)

def nonneg (n : Int) : ByteArray := if 0 ≤ n then dgs n else ByteArray.empty
def posTail (n : Int) : ByteArray := if 0 < n then (⟨#[59]⟩ : ByteArray) ++ dgs n else ByteArray.empty
theorem nonneg_size (n : Int) (h : In64 n) : (nonneg n).size ≤ 21 := by
  unfold nonneg
  split
  · exact dgs_size n h
  · exact Nat.zero_le _
theorem posTail_size (n : Int) (h : In64 n) : (posTail n).size ≤ 22 := by
  unfold posTail
  split
  · rw [ByteArray.size_append]
    have := dgs_size n h
    show 1 + _ ≤ _
    omega
  · exact Nat.zero_le _
def sixelHead (a b c : Int) : ByteArray := (((((⟨#[27, 80]⟩ : ByteArray) ++ nonneg a) ++ ⟨#[59]⟩) ++ nonneg b) ++ posTail c) ++ ⟨#[113]⟩
def sixelT (a b c : Int) (bs : List UInt8) : ByteArray := (sixelHead a b c ++ ⟨bs.toArray⟩) ++ ⟨#[27, 92]⟩
theorem sx_empty (a : ByteArray) : a ++ ByteArray.empty = a := by apply ByteArray.ext; simp
theorem sx_nil (a : ByteArray) : a ++ (⟨([] : List UInt8).toArray⟩ : ByteArray) = a := by apply ByteArray.ext; simp
theorem sx_pre (a : ByteArray) : ByteArray.empty ++ a = a := by apply ByteArray.ext; simp
theorem sx_assoc (a b c : ByteArray) : a ++ b ++ c = a ++ (b ++ c) := by apply ByteArray.ext; simp [ByteArray.data_append]
theorem addr_blk (a : Addr) (k : Nat) : (a.add k).block = a.block := by unfold Addr.add; split <;> rfl
/-- What the payload's slice holds. -/
def Pay (w : World) (A0 : Option Addr) (bs : List UInt8) : Prop := bs = [] ∨ ∃ ad, A0 = some ad ∧ ad.block < w.heap.size ∧ ∀ k (hk : k < bs.length), w.cell? (ad.add k) = some (.int .u8 ((bs[k]'hk).toNat : Int))
theorem wr_any (w : World) (s : ByteArray) (A0 : Option Addr) (bs : List UInt8) (c0 : Nat) (hp : Pay w A0 bs) (hlim : s.size + bs.length ≤ 140737488355328) (W : World) (h : Buf w s W) :
    Calls Tryd.prog 118 #[.pointer (some ⟨w.heap.size, 0, none⟩), .slice A0 bs.length c0] W fun e w' => e = .returned (.tuple #[.int .i64 bs.length, .nilIface]) ∧ Buf w (s ++ ⟨bs.toArray⟩) w' := by
  rcases hp with rfl | ⟨ad, rfl, hb, hc⟩
  · rw [sx_nil]
    exact wr_none w s A0 c0 W h
  · exact wr w s bs ad c0 W h hb (fun k hk => (h.2.cell (p := ad.add k) (by rw [addr_blk]; exact hb)).trans (hc k hk)) hlim

set_option maxHeartbeats 8000000 in
set_option maxRecDepth 100000 in
theorem sixel_walk (a b c : Int) (ha : In64 a) (hb : In64 b) (hc : In64 c) (A0 : Option Addr) (bs : List UInt8) (c0 : Nat) (w : World) (hLD : Laid w) (hp : Pay w A0 bs) (hl : bs.length ≤ 140737488000000) :
    Calls Tryd.prog 104 #[.int .i64 a, .int .i64 b, .int .i64 c, .slice A0 bs.length c0] w fun e w' => e = .returned (.string (sixelT a b c bs)) ∧ Below w.heap.size w w' := by
  have HF := Lib.hid (fresh w)
  have HL := Lib.hid hLD
  have HP := Lib.hid hp
  have HA := Lib.hid ha
  have HBB := Lib.hid hb
  have HC := Lib.hid hc
  have za := dgs_size a ha; have zb := dgs_size b hb; have zc := dgs_size c hc
  have na := nonneg_size a ha; have nb := nonneg_size b hb; have nc := posTail_size c hc
  clear hLD hp ha hb hc
  go_enter Tryd.func104, Tryd.ntmps104
  go_wp2_with fail
  refine (ws w _ _ _ HF.out (by decide)).mono ?_
  rintro e w1 ⟨rfl, h1⟩
  rw [sx_pre] at h1
  have H1 := Lib.hid h1; clear h1
  go_upto_if 12 with (fail)
  go_cut [] (fun wc => Hid (Buf w ((⟨#[27, 80]⟩ : ByteArray) ++ nonneg a) wc))
  case first =>
    by_cases h0 : 0 ≤ a
    · have t0 : decide (0 ≤ a) = true := decide_eq_true h0
      have hn : nonneg a = dgs a := by unfold nonneg; rw [if_pos h0]
      have HN := Lib.hid hn
      clear hn
      go_wp2_with fail
      refine (itoa64 a HA.out _ (HL.out.below H1.out.2)).mono ?_
      rintro e w2 ⟨rfl, b2⟩
      have HB2 := Lib.hid b2; clear b2
      go_wp2_with fail
      refine (ws w _ _ _ (H1.out.old HB2.out) (by show 2 + (dgs a).size ≤ _; omega)).mono ?_
      rintro e w3 ⟨rfl, h3⟩
      have H3 := Lib.hid h3; clear h3
      go_wp2
      go_meet
      case rel => exact Lib.hid (by rw [HN.out]; exact H3.out)
    · have t0 : decide (0 ≤ a) = false := decide_eq_false h0
      have hn : nonneg a = ByteArray.empty := by unfold nonneg; rw [if_neg h0]
      have HN := Lib.hid hn
      clear hn
      go_wp2
      go_meet
      case rel => exact Lib.hid (by rw [HN.out, sx_empty]; exact H1.out)
  case rest =>
    have H2 := hcut
    clear H1
    go_wp2_with fail
    refine (wb w _ 59 59 rfl _ H2.out (by rw [ByteArray.size_append]; show 2 + (nonneg a).size + 1 ≤ _; omega)).mono ?_
    rintro e w3 ⟨rfl, h3⟩
    have H3 := Lib.hid h3; clear h3 hcut H2
    go_upto_if 18 with (fail)
    go_cut [] (fun wc => Hid (Buf w ((((⟨#[27, 80]⟩ : ByteArray) ++ nonneg a) ++ ⟨#[59]⟩) ++ nonneg b) wc))
    case first =>
      by_cases h0 : 0 ≤ b
      · have t0 : decide (0 ≤ b) = true := decide_eq_true h0
        have hn : nonneg b = dgs b := by unfold nonneg; rw [if_pos h0]
        have HN := Lib.hid hn
        clear hn
        go_wp2_with fail
        refine (itoa64 b HBB.out _ (HL.out.below H3.out.2)).mono ?_
        rintro e w4 ⟨rfl, b4⟩
        have HB4 := Lib.hid b4; clear b4
        go_wp2_with fail
        refine (ws w _ _ _ (H3.out.old HB4.out) (by rw [ByteArray.size_append, ByteArray.size_append]; show 2 + (nonneg a).size + 1 + (dgs b).size ≤ _; omega)).mono ?_
        rintro e w5 ⟨rfl, h5⟩
        have H5 := Lib.hid h5; clear h5
        go_wp2
        go_meet
        case rel => exact Lib.hid (by rw [HN.out]; exact H5.out)
      · have t0 : decide (0 ≤ b) = false := decide_eq_false h0
        have hn : nonneg b = ByteArray.empty := by unfold nonneg; rw [if_neg h0]
        have HN := Lib.hid hn
        clear hn
        go_wp2
        go_meet
        case rel => exact Lib.hid (by rw [HN.out, sx_empty]; exact H3.out)
    case rest =>
      have H4 := hcut
      clear hcut H3
      go_upto_if 23 with (fail)
      go_cut [] (fun wc => Hid (Buf w (((((⟨#[27, 80]⟩ : ByteArray) ++ nonneg a) ++ ⟨#[59]⟩) ++ nonneg b) ++ posTail c) wc))
      case first =>
        by_cases h0 : 0 < c
        · have t0 : decide (0 < c) = true := decide_eq_true h0
          have hn : posTail c = (⟨#[59]⟩ : ByteArray) ++ dgs c := by unfold posTail; rw [if_pos h0]
          have HN := Lib.hid hn
          clear hn
          go_wp2_with fail
          refine (wb w _ 59 59 rfl _ H4.out (by rw [ByteArray.size_append, ByteArray.size_append, ByteArray.size_append]; show 2 + (nonneg a).size + 1 + (nonneg b).size + 1 ≤ _; omega)).mono ?_
          rintro e w5 ⟨rfl, h5⟩
          have H5 := Lib.hid h5; clear h5
          go_wp2_with fail
          refine (itoa64 c HC.out _ (HL.out.below H5.out.2)).mono ?_
          rintro e w6 ⟨rfl, b6⟩
          have HB6 := Lib.hid b6; clear b6
          go_wp2_with fail
          refine (ws w _ _ _ (H5.out.old HB6.out) (by rw [ByteArray.size_append, ByteArray.size_append, ByteArray.size_append, ByteArray.size_append]; show 2 + (nonneg a).size + 1 + (nonneg b).size + 1 + (dgs c).size ≤ _; omega)).mono ?_
          rintro e w7 ⟨rfl, h7⟩
          have H7 := Lib.hid h7; clear h7
          go_wp2
          go_meet
          case rel => exact Lib.hid (by rw [HN.out, ← sx_assoc]; exact H7.out)
        · have t0 : decide (0 < c) = false := decide_eq_false h0
          have hn : posTail c = ByteArray.empty := by unfold posTail; rw [if_neg h0]
          have HN := Lib.hid hn
          clear hn
          go_wp2
          go_meet
          case rel => exact Lib.hid (by rw [HN.out, sx_empty]; exact H4.out)
      case rest =>
        have H5 := hcut
        clear hcut H4
        have hz : (sixelHead a b c).size ≤ 100 := by
          unfold sixelHead
          simp only [ByteArray.size_append]
          show 2 + (nonneg a).size + 1 + (nonneg b).size + (posTail c).size + 1 ≤ _
          omega
        go_wp2_with fail
        refine (wb w _ 113 113 rfl _ H5.out (by simp only [ByteArray.size_append]; show 2 + (nonneg a).size + 1 + (nonneg b).size + (posTail c).size + 1 ≤ _; omega)).mono ?_
        rintro e w6 ⟨rfl, h6⟩
        have H6 : Hid (Buf w (sixelHead a b c) w6) := Lib.hid h6
        clear h6
        go_wp2_with fail
        refine (wr_any w _ A0 bs c0 HP.out (by omega) _ H6.out).mono ?_
        rintro e w7 ⟨rfl, h7⟩
        have H7 := Lib.hid h7; clear h7
        go_wp2_with fail
        refine (ws w _ _ _ H7.out (by rw [ByteArray.size_append]; show (sixelHead a b c).size + bs.length + 2 ≤ _; omega)).mono ?_
        rintro e w8 ⟨rfl, h8⟩
        have H8 := Lib.hid h8; clear h8
        go_wp2_with fail
        refine (str w _ _ H8.out).mono ?_
        rintro e w9 ⟨rfl, h9⟩
        have H9 := Lib.hid h9; clear h9
        go_wp2
        go_ret
        exact ⟨rfl, H9.out⟩

def bytesIn (l : List Int) : Bool := l.all fun x => decide (0 ≤ x) && decide (x < 256)
theorem bytesIn_get {l : List Int} (h : bytesIn l = true) (j : Nat) (hj : j < l.length) : ((UInt8.ofNat (l[j]).toNat).toNat : Int) = l.getD j 0 := by
  have := List.all_eq_true.1 h l[j] (List.getElem_mem hj)
  simp only [Bool.and_eq_true, decide_eq_true_eq] at this
  rw [List.getD_eq_getElem?_getD, List.getElem?_eq_getElem hj, UInt8.toNat_ofNat']
  simp only [Option.getD_some]
  omega
def xansi_SixelGraphics.f (a b c : Int) (l0 : List Int) : Option ByteArray := if In64 a ∧ In64 b ∧ In64 c ∧ bytesIn l0 = true ∧ l0.length ≤ 140737488000000 then some (sixelT a b c (l0.map fun x => UInt8.ofNat x.toNat)) else none
theorem xansi_SixelGraphics.calls (a b c : Int) (A0 : Option Addr) (c0 : Nat) (l0 : List Int) (r : ByteArray) (w : World) (hr0 : Kd.C (Kd.int .u8) w A0 l0.length l0) (_hc0 : l0.length ≤ c0) (hLD : Laid w) (h : xansi_SixelGraphics.f a b c l0 = some r) :
    Calls Tryd.prog 104 #[.int .i64 a, .int .i64 b, .int .i64 c, .slice A0 l0.length c0] w fun e w' => e = .returned (.string r) ∧ Below w.heap.size w w' := by
  unfold xansi_SixelGraphics.f at h
  split at h
  · rename_i hr
    obtain ⟨ha, hb, hc, hin, hsz⟩ := hr
    obtain rfl := Option.some.inj h
    clear h
    have hl : (l0.map fun x => UInt8.ofNat x.toNat).length = l0.length := List.length_map _
    have hp : Pay w A0 (l0.map fun x => UInt8.ofNat x.toNat) := by
      by_cases h0 : l0.length = 0
      · obtain rfl : l0 = [] := List.length_eq_zero_iff.1 h0
        exact Or.inl rfl
      · obtain ⟨ad, rfl, hcell⟩ := (Kd.reads_of_C (enc := Value.int .u8) (d := (0 : Int)) (h1 := fun _ => rfl) hr0).2.2 (by omega)
        refine Or.inr ⟨ad, rfl, ?_, ?_⟩
        · have h := World.block_lt_of_cell? w _ (hcell 0 (by omega))
          rw [addr_blk] at h
          exact h
        · intro i hi
          have hi' : i < l0.length := by omega
          rw [List.getElem_map, bytesIn_get hin i hi']
          exact hcell i hi'
    have := sixel_walk a b c ha hb hc A0 (l0.map fun x => UInt8.ofNat x.toNat) c0 w hLD hp (by omega)
    rw [hl] at this
    exact this
  · cases h
end Go.Proofs.YtplmmblofhhikaaDoor.Or
