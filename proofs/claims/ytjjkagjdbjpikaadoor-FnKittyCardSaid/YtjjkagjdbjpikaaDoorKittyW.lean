/- What KittyGraphics makes, by hand: the options with commas between them, and the payload, put into a buffer. -/
import Derived.Test.YtjjkagjdbjpikaaDoorBufC
import Derived.Test.YtjjkagjdbjpikaaDoorPJx1
import Derived.KernelRfl
import Derived.Lib.Hide
namespace Go.Proofs.YtjjkagjdbjpikaaDoor.Or
open Go Go.RowKit Go.Proofs.YtjjkagjdbjpikaaDoor.Buf Go.Proofs.YtjjkagjdbjpikaaDoor.PJ Go.Proofs.YtjjkagjdbjpikaaDoorW.PrintWords Go.Proofs.YtjjkagjdbjpikaaDoorW.PrintLast Go.Proofs.YtjjkagjdbjpikaaDoorW.PrintMore

theorem Buf_drew {w0 w : World} {s : ByteArray} (h : Buf w0 s w) (n : Nat) : Buf w0 s (w.drewN n) := h.old ⟨rfl, rfl, rfl, Nat.le_refl _, fun _ _ => rfl⟩

def kittyT (j : ByteArray) (bs : List UInt8) : ByteArray := ((⟨#[27, 95, 71]⟩ : ByteArray) ++ j) ++ ((if bs = [] then ByteArray.empty else (⟨#[59]⟩ : ByteArray) ++ ⟨bs.toArray⟩) ++ ⟨#[27, 92]⟩)

theorem addr_block' (a : Addr) (k : Nat) : (a.add k).block = a.block := by unfold Addr.add; split <;> rfl
set_option maxHeartbeats 4000000 in
set_option maxRecDepth 100000 in
theorem kitty_none (k : Nat) (A0 A1 : Option Addr) (c0 c1 : Nat) (l1 : List ByteArray) (j : ByteArray) (w : World) (hr1 : Kd.C Kd.string w A1 l1.length l1) (hc1 : l1.length ≤ c1) (hj : xansi_zzJoin.f k l1 ⟨#[44]⟩ = some j) (hs : j.size ≤ 140737488000000) :
    Calls Tryd.prog 53 #[.slice A0 0 c0, .slice A1 l1.length c1] w fun e w' => e = .returned (.string (kittyT j [])) ∧ Below w.heap.size w w' := by
  have H0 := Lib.hid (fresh w)
  have HJ := Lib.hid hj
  have HR := Lib.hid hr1
  have HC := Lib.hid hc1
  clear hj hr1 hc1
  have n1 : (ByteArray.empty ++ (⟨#[27, 95, 71]⟩ : ByteArray)).size = 3 := by decide
  go_enter Tryd.func53, Tryd.ntmps53
  go_wp2_with fail
  refine (ws w _ _ _ H0.out (by decide)).mono ?_
  rintro e w1 ⟨rfl, h1⟩
  have H1 := Lib.hid h1; clear h1
  go_wp2_with fail
  refine (xansi_zzJoin.calls k A1 c1 l1 ⟨#[44]⟩ j w1 (Kd.C_below HR.out H1.out.2) HC.out HJ.out).mono ?_
  rintro e w2 ⟨rfl, ⟨n2, rfl⟩⟩
  go_wp2_with fail
  refine (ws w _ _ _ (Buf_drew H1.out n2) (by rw [n1]; omega)).mono ?_
  rintro e w3 ⟨rfl, h3⟩
  have H3 := Lib.hid h3; clear h3
  go_wp2_with fail
  refine (ws w _ _ _ H3.out (by rw [ByteArray.size_append, n1]; show 3 + j.size + 2 ≤ _; omega)).mono ?_
  rintro e w6 ⟨rfl, h6⟩
  have H6 := Lib.hid h6; clear h6
  go_wp2_with fail
  refine (str w _ _ H6.out).mono ?_
  rintro e w7 ⟨rfl, h7⟩
  have H7 := Lib.hid h7; clear h7
  go_wp2
  go_ret
  exact ⟨by unfold kittyT; rw [if_pos rfl]; congr 2, H7.out⟩
set_option maxHeartbeats 4000000 in
set_option maxRecDepth 100000 in
theorem kitty_some (k : Nat) (A1 : Option Addr) (c0 c1 : Nat) (l1 : List ByteArray) (j : ByteArray) (ad : Addr) (bs : List UInt8) (hb0 : 0 < bs.length) (w : World) (hp : ∀ k (hk : k < bs.length), w.cell? (ad.add k) = some (.int .u8 ((bs[k]'hk).toNat : Int))) (hr1 : Kd.C Kd.string w A1 l1.length l1) (hc1 : l1.length ≤ c1) (hj : xansi_zzJoin.f k l1 ⟨#[44]⟩ = some j) (hs : j.size + bs.length ≤ 140737488000000) :
    Calls Tryd.prog 53 #[.slice (some ad) bs.length c0, .slice A1 l1.length c1] w fun e w' => e = .returned (.string (kittyT j bs)) ∧ Below w.heap.size w w' := by
  have H0 := Lib.hid (fresh w)
  have HJ := Lib.hid hj
  have HR := Lib.hid hr1
  have HC := Lib.hid hc1
  clear hj hr1 hc1
  have n1 : (ByteArray.empty ++ (⟨#[27, 95, 71]⟩ : ByteArray)).size = 3 := by decide
  have HP := Lib.hid hp
  have HA : Hid (ad.block < w.heap.size) := Lib.hid (by have h := World.block_lt_of_cell? w _ (hp 0 hb0); rw [addr_block'] at h; exact h)
  clear hp
  have t0 : decide (0 < bs.length) = true := decide_eq_true hb0
  go_enter Tryd.func53, Tryd.ntmps53
  go_wp2_with fail
  refine (ws w _ _ _ H0.out (by decide)).mono ?_
  rintro e w1 ⟨rfl, h1⟩
  have H1 := Lib.hid h1; clear h1
  go_wp2_with fail
  refine (xansi_zzJoin.calls k A1 c1 l1 ⟨#[44]⟩ j w1 (Kd.C_below HR.out H1.out.2) HC.out HJ.out).mono ?_
  rintro e w2 ⟨rfl, ⟨n2, rfl⟩⟩
  go_wp2_with fail
  refine (ws w _ _ _ (Buf_drew H1.out n2) (by rw [n1]; omega)).mono ?_
  rintro e w3 ⟨rfl, h3⟩
  have H3 := Lib.hid h3; clear h3
  go_wp2_with fail
  refine (ws w _ _ _ H3.out (by rw [ByteArray.size_append, n1]; show 3 + j.size + 1 ≤ _; omega)).mono ?_
  rintro e w4 ⟨rfl, h4⟩
  have H4 := Lib.hid h4; clear h4
  go_wp2_with fail
  refine (wr w _ bs ad c0 _ H4.out HA.out (fun k hk => (H4.out.2.cell (p := ad.add k) (by rw [addr_block']; exact HA.out)).trans (HP.out k hk)) (by rw [ByteArray.size_append, ByteArray.size_append, n1]; show 3 + j.size + 1 + bs.length ≤ _; omega)).mono ?_
  rintro e w5 ⟨rfl, h5⟩
  have H5 := Lib.hid h5; clear h5
  go_wp2_with fail
  refine (ws w _ _ _ H5.out (by rw [ByteArray.size_append, ByteArray.size_append, ByteArray.size_append, n1]; show 3 + j.size + 1 + bs.length + 2 ≤ _; omega)).mono ?_
  rintro e w6 ⟨rfl, h6⟩
  have H6 := Lib.hid h6; clear h6
  go_wp2_with fail
  refine (str w _ _ H6.out).mono ?_
  rintro e w7 ⟨rfl, h7⟩
  have H7 := Lib.hid h7; clear h7
  go_wp2
  go_ret
  exact ⟨by unfold kittyT; rw [if_neg (by intro h; rw [h] at hb0; simp at hb0)]; exact congrArg (fun x : ByteArray => Ending.returned (Value.string x)) (by apply ByteArray.ext; simp [ByteArray.data_append]), H7.out⟩

def bytesIn (l : List Int) : Bool := l.all fun x => decide (0 ≤ x) && decide (x < 256)
def xansi_KittyGraphics.f (k : Nat) (l0 : List Int) (l1 : List ByteArray) : Option ByteArray := (xansi_zzJoin.f k l1 ⟨#[44]⟩).bind fun j => if bytesIn l0 = true ∧ j.size + l0.length ≤ 140737488000000 then some (kittyT j (l0.map fun x => UInt8.ofNat x.toNat)) else none
theorem xansi_KittyGraphics.mono : ∀ a0 a1 k, LeO (xansi_KittyGraphics.f k a0 a1) (xansi_KittyGraphics.f (k + 1) a0 a1) := by
  intro a0 a1 k
  unfold xansi_KittyGraphics.f
  exact LeO.bind (xansi_zzJoin.mono _ _ k) fun _ => LeO.refl _
theorem bytesIn_get {l : List Int} (h : bytesIn l = true) (j : Nat) (hj : j < l.length) : ((UInt8.ofNat (l[j]).toNat).toNat : Int) = l.getD j 0 := by
  have := List.all_eq_true.1 h l[j] (List.getElem_mem hj)
  simp only [Bool.and_eq_true, decide_eq_true_eq] at this
  rw [List.getD_eq_getElem?_getD, List.getElem?_eq_getElem hj, UInt8.toNat_ofNat']
  simp only [Option.getD_some]
  omega
theorem xansi_KittyGraphics.calls (k : Nat) (A0 : Option Addr) (c0 : Nat) (l0 : List Int) (A1 : Option Addr) (c1 : Nat) (l1 : List ByteArray) (r : ByteArray) (w : World) (hr0 : Kd.C (Kd.int .u8) w A0 l0.length l0) (_hc0 : l0.length ≤ c0) (hr1 : Kd.C Kd.string w A1 l1.length l1) (hc1 : l1.length ≤ c1) (h : xansi_KittyGraphics.f k l0 l1 = some r) :
    Calls Tryd.prog 53 #[.slice A0 l0.length c0, .slice A1 l1.length c1] w fun e w' => e = .returned (.string r) ∧ Below w.heap.size w w' := by
  unfold xansi_KittyGraphics.f at h
  obtain ⟨j, hj, h⟩ := Option.bind_eq_some_iff.1 h
  split at h
  · rename_i hr
    obtain ⟨hin, hsz⟩ := hr
    obtain rfl := Option.some.inj h
    clear h
    by_cases h0 : l0.length = 0
    · obtain rfl : l0 = [] := List.length_eq_zero_iff.1 h0
      exact kitty_none k A0 A1 c0 c1 l1 j w hr1 hc1 hj (by simp at hsz; omega)
    · obtain ⟨ad, rfl, hc⟩ := (Kd.reads_of_C (enc := Value.int .u8) (d := (0 : Int)) (h1 := fun _ => rfl) hr0).2.2 (by omega)
      have hl : (l0.map fun x => UInt8.ofNat x.toNat).length = l0.length := List.length_map _
      have := kitty_some k A1 c0 c1 l1 j ad (l0.map fun x => UInt8.ofNat x.toNat) (by omega) w (by
        intro i hi
        have hi' : i < l0.length := by omega
        rw [List.getElem_map, bytesIn_get hin i hi']
        exact hc i hi') hr1 hc1 hj (by omega)
      rw [hl] at this
      exact this
  · cases h
end Go.Proofs.YtjjkagjdbjpikaaDoor.Or
