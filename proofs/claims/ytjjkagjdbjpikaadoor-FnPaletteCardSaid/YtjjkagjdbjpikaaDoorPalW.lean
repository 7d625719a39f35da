/- What SetPalette makes of a color of red, green and blue, by hand: the color is an interface value of one kind. -/
import Derived.Test.YtjjkagjdbjpikaaDoorPHx1
import Derived.WalkKit
import Derived.KernelRfl
import Derived.Lib.Hide
import Derived.Laws.BitsLemmas
namespace Go.Proofs.YtjjkagjdbjpikaaDoor.Or
set_option linter.unusedVariables false
set_option linter.unusedSimpArgs false
open Go Go.RowKit Go.Proofs.YtjjkagjdbjpikaaDoorW.PrintWords Go.Proofs.YtjjkagjdbjpikaaDoorW.PrintLast Go.Proofs.YtjjkagjdbjpikaaDoor.PH

/-- A channel of 8 bits as one of 16. -/
def wide (r : Int) : Int := Go.bits .or .u32 r (r * 256)
theorem wraps_u32 (n : Int) (h₀ : 0 ≤ n) (h₁ : n < 2 ^ 32) : IntKind.u32.wrap n = n := by rw [IntKind.wrap_u32]; omega
theorem wide_eq (r : Int) (h0 : 0 ≤ r) (h1 : r < 256) : wide r = r * 257 := by
  have p8 : (2 : Int) ^ 8 = 256 := rfl
  have p32 : (2 : Int) ^ 32 = 4294967296 := rfl
  unfold wide
  have e : Go.bits .or .u32 r (r * 256) = Go.bits .or .u32 (r * 256) r := by simp only [Go.bits, BitVec.or_comm]
  rw [e, bits_join .u32 32 (by decide) wraps_u32 8 (r * 256) r (by omega) (by rw [p8]; omega) (by rw [p32]; omega) h0 (by rw [p8]; exact h1) (by rw [p32]; omega)]
  omega
set_option maxHeartbeats 4000000 in
theorem rgba (r g b : Int) (hr : 0 ≤ r ∧ r < 256) (hg : 0 ≤ g ∧ g < 256) (hb : 0 ≤ b ∧ b < 256) (w : World) :
    Calls Tryd.prog 170 #[.agg #[.int .u8 r, .int .u8 g, .int .u8 b, .int .u8 255]] w fun e w' => e = .returned (.tuple #[.int .u32 (wide r), .int .u32 (wide g), .int .u32 (wide b), .int .u32 (wide 255)]) ∧ Below w.heap.size w w' := by
  go_enter Tryd.func170, Tryd.ntmps170
  go_wp2
  refine bodyPost_ret (v := .tuple #[.int .u32 (wide r), .int .u32 (wide g), .int .u32 (wide b), .int .u32 (wide 255)]) (by simp [results, Tryd.results170, go_sem, wide]) rfl ⟨rfl, (Below.refl _ w).alloc (Nat.le_refl _) _⟩
theorem solid (r g b : Int) (w : World) :
    Calls Tryd.prog 56 #[.int .u8 r, .int .u8 g, .int .u8 b, .int .u8 255] w fun e w' => e = .returned (.iface 99 (.agg #[.int .u8 r, .int .u8 g, .int .u8 b, .int .u8 255])) ∧ w = w' := by
  go_enter Tryd.func56, Tryd.ntmps56
  go_wp2
  go_ret
  exact ⟨rfl, rfl⟩
def dl : List UInt8 := [48, 49, 50, 51, 52, 53, 54, 55, 56, 57, 97, 98, 99, 100, 101, 102]
def h1 (i : Nat) : ByteArray := ⟨#[dl.getD i 0]⟩
def h2 (r : Nat) : ByteArray := ⟨#[dl.getD (r / 16) 0, dl.getD (r % 16) 0]⟩
theorem hex1 (n : Nat) (h : n < 16) : xansi_zzHex.f 4 (n : Int) 1 = some (h1 n) := by
  have key : ((List.range 16).all fun n => decide (xansi_zzHex.f 4 (n : Int) 1 = some (h1 n))) = true := by decide +kernel
  exact of_decide_eq_true (List.all_eq_true.1 key n (List.mem_range.2 h))
theorem hex2 (n : Nat) (h : n < 256) : xansi_zzHex.f 4 (n : Int) 2 = some (h2 n) := by
  have key : ((List.range 256).all fun n => decide (xansi_zzHex.f 4 (n : Int) 2 = some (h2 n))) = true := by decide +kernel
  exact of_decide_eq_true (List.all_eq_true.1 key n (List.mem_range.2 h))

set_option maxHeartbeats 8000000 in
set_option maxRecDepth 100000 in
theorem set_out (i : Int) (c : Value) (hi : i < 0 ∨ 15 < i) (w : World) :
    Calls Tryd.prog 55 #[.int .i64 i, .iface 99 c] w fun e w' => e = .returned (.string ⟨#[]⟩) ∧ Below w.heap.size w w' := by
  by_cases c1 : i < 0
  · have t1 : decide (i < 0) = true := decide_eq_true c1
    go_enter Tryd.func55, Tryd.ntmps55
    go_wp2
    go_ret
    exact ⟨rfl, Below.refl _ _⟩
  · have c2 : 15 < i := by omega
    have t1 : decide (i < 0) = false := decide_eq_false c1
    have t2 : decide (15 < i) = true := decide_eq_true c2
    go_enter Tryd.func55, Tryd.ntmps55
    go_wp2
    go_ret
    exact ⟨rfl, Below.refl _ _⟩

set_option maxRecDepth 100000 in
theorem meth (r g b : Int) (w : World) : (method 264 99 (.agg #[.int .u8 r, .int .u8 g, .int .u8 b, .int .u8 255]) "RGBA").run Tryd.prog w = .ok (170, .agg #[.int .u8 r, .int .u8 g, .int .u8 b, .int .u8 255]) w := by kernel_rfl
theorem wide_shr (r : Nat) (h : r < 256) : wide (r : Int) / 256 = (r : Int) := by
  rw [wide_eq _ (by omega) (by omega)]
  omega
set_option maxHeartbeats 8000000 in
set_option maxRecDepth 100000 in
theorem set_in (i r g b : Nat) (hi : i < 16) (hr : r < 256) (hg : g < 256) (hb : b < 256) (w : World) :
    Calls Tryd.prog 55 #[.int .i64 i, .iface 99 (.agg #[.int .u8 r, .int .u8 g, .int .u8 b, .int .u8 255])] w fun e w' => e = .returned (.string (((((⟨#[27, 93, 80]⟩ : ByteArray) ++ h1 i) ++ h2 r) ++ h2 g) ++ h2 b ++ ⟨#[7]⟩)) ∧ Below w.heap.size w w' := by
  have t1 : decide ((i : Int) < 0) = false := decide_eq_false (by omega)
  have t2 : decide (15 < (i : Int)) = false := decide_eq_false (by omega)
  go_enter Tryd.func55, Tryd.ntmps55
  have hm := meth (r : Int) (g : Int) (b : Int)
  have hcal := rgba (r : Int) (g : Int) (b : Int) (by omega) (by omega) (by omega)
  have HR := Lib.hid hcal
  have e1 := wide_shr r hr
  have e2 := wide_shr g hg
  have e3 := wide_shr b hb
  have e0 : (i : Int) % 4294967296 = (i : Int) := by omega
  have z1 : (h1 i).size = 1 := rfl
  have z2 : (h2 r).size = 2 := rfl
  have z3 : (h2 g).size = 2 := rfl
  have z4 : (h2 b).size = 2 := rfl
  clear hcal
  go_wp2_with fail
  refine (HR.out w).mono ?_
  rintro e w1 ⟨rfl, hb1⟩
  have HB1 := Lib.hid hb1
  clear hb1 hm
  go_wp2_with fail
  refine (xansi_zzHex.calls 4 (i : Int) 1 (h1 i) _ (hex1 i hi)).mono ?_
  rintro e w2 ⟨rfl, hd⟩
  have HB2 := Lib.hid (HB1.out.trans (hd.below.mono HB1.out.size))
  clear hd
  go_wp2_with fail
  refine (xansi_zzHex.calls 4 (r : Int) 2 (h2 r) _ (hex2 r hr)).mono ?_
  rintro e w3 ⟨rfl, hd⟩
  have HB3 := Lib.hid (HB2.out.trans (hd.below.mono HB2.out.size))
  clear hd
  go_wp2_with fail
  refine (xansi_zzHex.calls 4 (g : Int) 2 (h2 g) _ (hex2 g hg)).mono ?_
  rintro e w4 ⟨rfl, hd⟩
  have HB4 := Lib.hid (HB3.out.trans (hd.below.mono HB3.out.size))
  clear hd
  go_wp2_with fail
  refine (xansi_zzHex.calls 4 (b : Int) 2 (h2 b) _ (hex2 b hb)).mono ?_
  rintro e w5 ⟨rfl, hd⟩
  have HB5 := Lib.hid (HB4.out.trans (hd.below.mono HB4.out.size))
  clear hd
  go_wp2
  go_ret
  exact ⟨rfl, HB5.out⟩
def palT (i r g b : Nat) : ByteArray := ((((⟨#[27, 93, 80]⟩ : ByteArray) ++ h1 i) ++ h2 r) ++ h2 g) ++ h2 b ++ ⟨#[7]⟩
set_option maxHeartbeats 4000000 in
theorem pal_of (i r g b : Int) (t : ByteArray) (H : ∀ w, Calls Tryd.prog 55 #[.int .i64 i, .iface 99 (.agg #[.int .u8 r, .int .u8 g, .int .u8 b, .int .u8 255])] w fun e w' => e = .returned (.string t) ∧ Below w.heap.size w w') (w : World) :
    Calls Tryd.prog 23 #[.int .i64 i, .int .u8 r, .int .u8 g, .int .u8 b] w fun e w' => e = .returned (.string t) ∧ Below w.heap.size w w' := by
  have hs := solid r g b
  have HH := Lib.hid H
  clear H
  go_enter Tryd.func23, Tryd.ntmps23
  go_wp2_with fail
  refine (hs w).mono ?_
  rintro e w1 ⟨rfl, rfl⟩
  clear hs
  go_wp2_with fail
  refine (HH.out w).mono ?_
  rintro e w2 ⟨rfl, hd⟩
  have HB := Lib.hid hd
  clear hd
  go_wp2
  go_ret
  exact ⟨rfl, HB.out⟩
def impl_Palette.f (i r g b : Int) : Option ByteArray :=
  if (0 ≤ r ∧ r < 256) ∧ (0 ≤ g ∧ g < 256) ∧ (0 ≤ b ∧ b < 256) then (if i < 0 ∨ 15 < i then some ⟨#[]⟩ else some (palT i.toNat r.toNat g.toNat b.toNat)) else none
theorem impl_Palette.calls (a0 : Int) (a1 : Int) (a2 : Int) (a3 : Int) (r : ByteArray) (w : World) (h : impl_Palette.f a0 a1 a2 a3 = some r) :
    Calls Tryd.prog 23 #[.int .i64 a0, .int .u8 a1, .int .u8 a2, .int .u8 a3] w fun e w' => e = .returned (.string r) ∧ Below w.heap.size w w' := by
  unfold impl_Palette.f at h
  split at h
  · rename_i hr
    obtain ⟨⟨ha, ha'⟩, ⟨hb, hb'⟩, hc, hc'⟩ := hr
    obtain ⟨x, rfl⟩ := Int.eq_ofNat_of_zero_le ha
    obtain ⟨y, rfl⟩ := Int.eq_ofNat_of_zero_le hb
    obtain ⟨z, rfl⟩ := Int.eq_ofNat_of_zero_le hc
    split at h
    · rename_i hi
      obtain rfl := Option.some.inj h
      exact pal_of _ _ _ _ _ (fun w => set_out _ _ hi w) w
    · rename_i hi
      obtain rfl := Option.some.inj h
      obtain ⟨n, rfl⟩ := Int.eq_ofNat_of_zero_le (show 0 ≤ a0 by omega)
      exact pal_of _ _ _ _ _ (fun w => set_in n x y z (by omega) (by omega) (by omega) (by omega) w) w
  · cases h
end Go.Proofs.YtjjkagjdbjpikaaDoor.Or
