/- The contracts of impl.MakeRequest and impl.MakeReport, by hand: a mode is an interface value of one of two kinds. -/
import Derived.Test.YtplmmblofhhikaaDoorOr
import Derived.WalkKit
import Derived.KernelRfl
import Derived.Lib.Hide
import Derived.Lib.ItoaLen
namespace Go.Proofs.YtplmmblofhhikaaDoor.Or
open Go Go.RowKit

theorem mode_dec (n : Int) (w : World) : Calls Tryd.prog 160 #[.int .i64 n] w fun e w' => e = .returned (.int .i64 n) ∧ w = w' := by
  go_enter Tryd.func160, Tryd.ntmps160
  go_wp2
  go_ret
  exact ⟨rfl, rfl⟩
theorem mode_ansi (n : Int) (w : World) : Calls Tryd.prog 161 #[.int .i64 n] w fun e w' => e = .returned (.int .i64 n) ∧ w = w' := by
  go_enter Tryd.func161, Tryd.ntmps161
  go_wp2
  go_ret
  exact ⟨rfl, rfl⟩
theorem modeOf_dec (n : Int) (w : World) : Calls Tryd.prog 102 #[.agg #[.bool true, .int .i64 n]] w fun e w' => e = .returned (.iface 115 (.int .i64 n)) ∧ Below w.heap.size w w' := by
  go_enter Tryd.func102, Tryd.ntmps102
  go_wp2
  go_ret
  exact ⟨rfl, (Below.refl _ _).alloc (Nat.le_refl _) _⟩
theorem modeOf_ansi (n : Int) (w : World) : Calls Tryd.prog 102 #[.agg #[.bool false, .int .i64 n]] w fun e w' => e = .returned (.iface 116 (.int .i64 n)) ∧ Below w.heap.size w w' := by
  go_enter Tryd.func102, Tryd.ntmps102
  go_wp2
  go_ret
  exact ⟨rfl, (Below.refl _ _).alloc (Nat.le_refl _) _⟩
set_option maxRecDepth 100000 in
theorem is_dec (v : Value) (W : World) : (Instr.typeAssert (.iface 115 v) 94 115 true).run Tryd.prog W = .ok (.tuple #[v, .bool true]) W := by rfl
set_option maxRecDepth 100000 in
theorem is_ansi (v : Value) (W : World) : (Instr.typeAssert (.iface 116 v) 94 115 true).run Tryd.prog W = .ok (.tuple #[.int .i64 0, .bool false]) W := by kernel_rfl
def txt (l : List UInt8) : ByteArray := ⟨l.toArray⟩
def digs (n : Int) : ByteArray := ⟨(Lib.itoa n).toArray⟩
theorem digs_size (n : Int) (h0 : -9223372036854775808 ≤ n) (h1 : n ≤ 9223372036854775807) : (digs n).size ≤ 21 := by
  have := Lib.itoa_length_le n h0 h1
  show (Lib.itoa n).toArray.size ≤ 21
  simpa using this
theorem itoa_calls (n : Int) (h0 : -9223372036854775808 ≤ n) (h1 : n ≤ 9223372036854775807) (w : World) (hLD : Laid w) :
    Calls Tryd.prog 109 #[.int .i64 n] w fun e w' => e = .returned (.string (digs n)) ∧ Below w.heap.size w w' :=
  strconv_Itoa.calls n (digs n) w hLD (by unfold strconv_Itoa.f; rw [if_pos ⟨h0, h1⟩]; rfl)
set_option maxRecDepth 100000 in
theorem meth_dec (n : Int) (w : World) : (method 273 115 (.int .i64 n) "Mode").run Tryd.prog w = .ok (160, .int .i64 n) w := by kernel_rfl
set_option maxRecDepth 100000 in
theorem meth_ansi (n : Int) (w : World) : (method 273 116 (.int .i64 n) "Mode").run Tryd.prog w = .ok (161, .int .i64 n) w := by kernel_rfl
set_option maxHeartbeats 4000000 in
set_option maxRecDepth 100000 in
theorem req_dec (n : Int) (h0 : -9223372036854775808 ≤ n) (h1 : n ≤ 9223372036854775807) (w : World) (hLD : Laid w) :
    Calls Tryd.prog 101 #[.iface 115 (.int .i64 n)] w fun e w' => e = .returned (.string (((txt [27, 91] ++ txt [63]) ++ digs n) ++ txt [36, 112])) ∧ Below w.heap.size w w' := by
  have ta := is_dec
  have HL := Lib.hid hLD; clear hLD
  have hm := meth_dec
  have hd := digs_size n h0 h1
  go_enter Tryd.func101, Tryd.ntmps101
  go_wp2_with (first | (go_at_call 160; (with_reducible refine (mode_dec _ _).mono ?_); rintro e w' ⟨rfl, rfl⟩) | (go_at_call 109; (with_reducible refine (itoa_calls _ h0 h1 _ HL.out).mono ?_); rintro e w' ⟨rfl, hb⟩; have HB := Lib.hid hb; clear hb))
  go_ret
  exact ⟨rfl, HB.out⟩
set_option maxHeartbeats 4000000 in
set_option maxRecDepth 100000 in
theorem rep_dec_small (n v : Int) (h0 : -9223372036854775808 ≤ n) (h1 : n ≤ 9223372036854775807) (hv : 0 ≤ v) (hv4 : v ≤ 4) (w : World) (hLD : Laid w) :
    Calls Tryd.prog 103 #[.iface 115 (.int .i64 n), .int .u8 v] w fun e w' => e = .returned (.string ((((txt [27, 91, 63] ++ digs n) ++ txt [59]) ++ digs v) ++ txt [36, 121])) ∧ Below w.heap.size w w' := by
  have ta := is_dec
  have HL := Lib.hid hLD; clear hLD
  have hm := meth_dec
  have hd := digs_size n h0 h1
  have he := digs_size v (by omega) (by omega)
  have tv : decide (4 < v) = false := decide_eq_false (by omega)
  have HA := Lib.hid (fun W h => itoa_calls n h0 h1 W h)
  have HV := Lib.hid (fun W h => itoa_calls v (by omega) (by omega) W h)
  have HB0 := Lib.hid (Below.refl w.heap.size w)
  go_enter Tryd.func103, Tryd.ntmps103
  go_wp2_with (first | (go_at_call 160; (with_reducible refine (mode_dec _ _).mono ?_); rintro e w' ⟨rfl, rfl⟩) | (go_at_call 109; (with_reducible refine (HA.out _ (HL.out.below HB0.out)).mono ?_); rintro e w' ⟨rfl, hb⟩; have HB1 := Lib.hid (HB0.out.trans (hb.mono HB0.out.size)); clear hb HA) | (go_at_call 109; (with_reducible refine (HV.out _ (HL.out.below HB1.out)).mono ?_); rintro e w' ⟨rfl, hb⟩; have HB2 := Lib.hid (HB1.out.trans (hb.mono HB1.out.size)); clear hb))
  go_ret
  exact ⟨rfl, HB2.out⟩
set_option maxHeartbeats 4000000 in
set_option maxRecDepth 100000 in
theorem rep_dec_big (n v : Int) (h0 : -9223372036854775808 ≤ n) (h1 : n ≤ 9223372036854775807) (hv : 4 < v) (_hv4 : v ≤ 255) (w : World) (hLD : Laid w) :
    Calls Tryd.prog 103 #[.iface 115 (.int .i64 n), .int .u8 v] w fun e w' => e = .returned (.string ((((txt [27, 91, 63] ++ digs n) ++ txt [59]) ++ digs 0) ++ txt [36, 121])) ∧ Below w.heap.size w w' := by
  have ta := is_dec
  have HL := Lib.hid hLD; clear hLD
  have hm := meth_dec
  have hd := digs_size n h0 h1
  have he := digs_size 0 (by omega) (by omega)
  have tv : decide (4 < v) = true := decide_eq_true hv
  have HA := Lib.hid (fun W h => itoa_calls n h0 h1 W h)
  have HV := Lib.hid (fun W h => itoa_calls 0 (by omega) (by omega) W h)
  have HB0 := Lib.hid (Below.refl w.heap.size w)
  go_enter Tryd.func103, Tryd.ntmps103
  go_wp2_with (first | (go_at_call 160; (with_reducible refine (mode_dec _ _).mono ?_); rintro e w' ⟨rfl, rfl⟩) | (go_at_call 109; (with_reducible refine (HA.out _ (HL.out.below HB0.out)).mono ?_); rintro e w' ⟨rfl, hb⟩; have HB1 := Lib.hid (HB0.out.trans (hb.mono HB0.out.size)); clear hb HA) | (go_at_call 109; (with_reducible refine (HV.out _ (HL.out.below HB1.out)).mono ?_); rintro e w' ⟨rfl, hb⟩; have HB2 := Lib.hid (HB1.out.trans (hb.mono HB1.out.size)); clear hb))
  go_ret
  exact ⟨rfl, HB2.out⟩
set_option maxHeartbeats 4000000 in
set_option maxRecDepth 100000 in
theorem req_ansi (n : Int) (h0 : -9223372036854775808 ≤ n) (h1 : n ≤ 9223372036854775807) (w : World) (hLD : Laid w) :
    Calls Tryd.prog 101 #[.iface 116 (.int .i64 n)] w fun e w' => e = .returned (.string ((txt [27, 91] ++ digs n) ++ txt [36, 112])) ∧ Below w.heap.size w w' := by
  have ta := is_ansi
  have HL := Lib.hid hLD; clear hLD
  have hm := meth_ansi
  have hd := digs_size n h0 h1
  go_enter Tryd.func101, Tryd.ntmps101
  go_wp2_with (first | (go_at_call 161; (with_reducible refine (mode_ansi _ _).mono ?_); rintro e w' ⟨rfl, rfl⟩) | (go_at_call 109; (with_reducible refine (itoa_calls _ h0 h1 _ HL.out).mono ?_); rintro e w' ⟨rfl, hb⟩; have HB := Lib.hid hb; clear hb))
  go_ret
  exact ⟨rfl, HB.out⟩
set_option maxHeartbeats 4000000 in
set_option maxRecDepth 100000 in
theorem rep_ansi_small (n v : Int) (h0 : -9223372036854775808 ≤ n) (h1 : n ≤ 9223372036854775807) (hv : 0 ≤ v) (hv4 : v ≤ 4) (w : World) (hLD : Laid w) :
    Calls Tryd.prog 103 #[.iface 116 (.int .i64 n), .int .u8 v] w fun e w' => e = .returned (.string ((((txt [27, 91] ++ digs n) ++ txt [59]) ++ digs v) ++ txt [36, 121])) ∧ Below w.heap.size w w' := by
  have ta := is_ansi
  have HL := Lib.hid hLD; clear hLD
  have hm := meth_ansi
  have hd := digs_size n h0 h1
  have he := digs_size v (by omega) (by omega)
  have tv : decide (4 < v) = false := decide_eq_false (by omega)
  have HA := Lib.hid (fun W h => itoa_calls n h0 h1 W h)
  have HV := Lib.hid (fun W h => itoa_calls v (by omega) (by omega) W h)
  have HB0 := Lib.hid (Below.refl w.heap.size w)
  go_enter Tryd.func103, Tryd.ntmps103
  go_wp2_with (first | (go_at_call 161; (with_reducible refine (mode_ansi _ _).mono ?_); rintro e w' ⟨rfl, rfl⟩) | (go_at_call 109; (with_reducible refine (HA.out _ (HL.out.below HB0.out)).mono ?_); rintro e w' ⟨rfl, hb⟩; have HB1 := Lib.hid (HB0.out.trans (hb.mono HB0.out.size)); clear hb HA) | (go_at_call 109; (with_reducible refine (HV.out _ (HL.out.below HB1.out)).mono ?_); rintro e w' ⟨rfl, hb⟩; have HB2 := Lib.hid (HB1.out.trans (hb.mono HB1.out.size)); clear hb))
  go_ret
  exact ⟨rfl, HB2.out⟩
set_option maxHeartbeats 4000000 in
set_option maxRecDepth 100000 in
theorem rep_ansi_big (n v : Int) (h0 : -9223372036854775808 ≤ n) (h1 : n ≤ 9223372036854775807) (hv : 4 < v) (_hv4 : v ≤ 255) (w : World) (hLD : Laid w) :
    Calls Tryd.prog 103 #[.iface 116 (.int .i64 n), .int .u8 v] w fun e w' => e = .returned (.string ((((txt [27, 91] ++ digs n) ++ txt [59]) ++ digs 0) ++ txt [36, 121])) ∧ Below w.heap.size w w' := by
  have ta := is_ansi
  have HL := Lib.hid hLD; clear hLD
  have hm := meth_ansi
  have hd := digs_size n h0 h1
  have he := digs_size 0 (by omega) (by omega)
  have tv : decide (4 < v) = true := decide_eq_true hv
  have HA := Lib.hid (fun W h => itoa_calls n h0 h1 W h)
  have HV := Lib.hid (fun W h => itoa_calls 0 (by omega) (by omega) W h)
  have HB0 := Lib.hid (Below.refl w.heap.size w)
  go_enter Tryd.func103, Tryd.ntmps103
  go_wp2_with (first | (go_at_call 161; (with_reducible refine (mode_ansi _ _).mono ?_); rintro e w' ⟨rfl, rfl⟩) | (go_at_call 109; (with_reducible refine (HA.out _ (HL.out.below HB0.out)).mono ?_); rintro e w' ⟨rfl, hb⟩; have HB1 := Lib.hid (HB0.out.trans (hb.mono HB0.out.size)); clear hb HA) | (go_at_call 109; (with_reducible refine (HV.out _ (HL.out.below HB1.out)).mono ?_); rintro e w' ⟨rfl, hb⟩; have HB2 := Lib.hid (HB1.out.trans (hb.mono HB1.out.size)); clear hb))
  go_ret
  exact ⟨rfl, HB2.out⟩
def impl_MakeRequest.f (b : Bool) (n : Int) : Option ByteArray := if -9223372036854775808 ≤ n ∧ n ≤ 9223372036854775807 then some (if b then ((txt [27, 91] ++ txt [63]) ++ digs n) ++ txt [36, 112] else (txt [27, 91] ++ digs n) ++ txt [36, 112]) else none
def impl_MakeReport.f (b : Bool) (n v : Int) : Option ByteArray := if (-9223372036854775808 ≤ n ∧ n ≤ 9223372036854775807) ∧ 0 ≤ v ∧ v ≤ 255 then some ((((if b then txt [27, 91, 63] else txt [27, 91]) ++ digs n ++ txt [59]) ++ digs (if 4 < v then 0 else v)) ++ txt [36, 121]) else none
set_option maxHeartbeats 4000000 in
set_option maxRecDepth 100000 in
theorem impl_MakeRequest.calls (b : Bool) (n : Int) (r : ByteArray) (w : World) (hLD : Laid w) (h : impl_MakeRequest.f b n = some r) :
    Calls Tryd.prog 27 #[.agg #[.bool b, .int .i64 n]] w fun e w' => e = .returned (.string r) ∧ Below w.heap.size w w' := by
  unfold impl_MakeRequest.f at h
  split at h
  · rename_i hr
    obtain ⟨h0, h1⟩ := hr
    obtain rfl := Option.some.inj h
    clear h
    have HL := Lib.hid hLD; clear hLD
    have HB0 := Lib.hid ((Below.refl w.heap.size w).alloc (Nat.le_refl _) (.cells #[.bool b, .int .i64 n] 51))
    cases b with
    | true =>
      have HO := Lib.hid (fun W => modeOf_dec n W)
      have HQ := Lib.hid (fun W h => req_dec n h0 h1 W h)
      clear h0 h1
      go_enter Tryd.func27, Tryd.ntmps27
      go_wp2_with (first | (go_at_call 102; (with_reducible refine (HO.out _).mono ?_); rintro e w' ⟨rfl, hb⟩; have HB1 := Lib.hid (HB0.out.trans (hb.mono HB0.out.size)); clear hb) | (go_at_call 101; (with_reducible refine (HQ.out _ (HL.out.below HB1.out)).mono ?_); rintro e w' ⟨rfl, hb⟩; have HB2 := Lib.hid (HB1.out.trans (hb.mono HB1.out.size)); clear hb))
      go_ret
      exact ⟨by simp, HB2.out⟩
    | false =>
      have HO := Lib.hid (fun W => modeOf_ansi n W)
      have HQ := Lib.hid (fun W h => req_ansi n h0 h1 W h)
      clear h0 h1
      go_enter Tryd.func27, Tryd.ntmps27
      go_wp2_with (first | (go_at_call 102; (with_reducible refine (HO.out _).mono ?_); rintro e w' ⟨rfl, hb⟩; have HB1 := Lib.hid (HB0.out.trans (hb.mono HB0.out.size)); clear hb) | (go_at_call 101; (with_reducible refine (HQ.out _ (HL.out.below HB1.out)).mono ?_); rintro e w' ⟨rfl, hb⟩; have HB2 := Lib.hid (HB1.out.trans (hb.mono HB1.out.size)); clear hb))
      go_ret
      exact ⟨by simp, HB2.out⟩
  · cases h
set_option maxHeartbeats 4000000 in
set_option maxRecDepth 100000 in
theorem impl_MakeReport.calls (b : Bool) (n v : Int) (r : ByteArray) (w : World) (hLD : Laid w) (h : impl_MakeReport.f b n v = some r) :
    Calls Tryd.prog 29 #[.agg #[.bool b, .int .i64 n], .int .u8 v] w fun e w' => e = .returned (.string r) ∧ Below w.heap.size w w' := by
  unfold impl_MakeReport.f at h
  split at h
  · rename_i hr
    obtain ⟨⟨h0, h1⟩, h2, h3⟩ := hr
    obtain rfl := Option.some.inj h
    clear h
    have HL := Lib.hid hLD; clear hLD
    have HB0 := Lib.hid ((Below.refl w.heap.size w).alloc (Nat.le_refl _) (.cells #[.bool b, .int .i64 n] 51))
    cases b with
    | true =>
      by_cases hc : 4 < v
      · have HO := Lib.hid (fun W => modeOf_dec n W)
        have HQ := Lib.hid (fun W h => rep_dec_big n v h0 h1 (by omega) (by omega) W h)
        have hif : (if 4 < v then (0 : Int) else v) = 0 := if_pos hc
        rw [hif]
        clear h0 h1 h2 h3 hif hc
        go_enter Tryd.func29, Tryd.ntmps29
        go_wp2_with (first | (go_at_call 102; (with_reducible refine (HO.out _).mono ?_); rintro e w' ⟨rfl, hb⟩; have HB1 := Lib.hid (HB0.out.trans (hb.mono HB0.out.size)); clear hb) | (go_at_call 103; (with_reducible refine (HQ.out _ (HL.out.below HB1.out)).mono ?_); rintro e w' ⟨rfl, hb⟩; have HB2 := Lib.hid (HB1.out.trans (hb.mono HB1.out.size)); clear hb))
        go_ret
        exact ⟨by simp, HB2.out⟩
      · have HO := Lib.hid (fun W => modeOf_dec n W)
        have HQ := Lib.hid (fun W h => rep_dec_small n v h0 h1 (by omega) (by omega) W h)
        have hif : (if 4 < v then (0 : Int) else v) = v := if_neg hc
        rw [hif]
        clear h0 h1 h2 h3 hif hc
        go_enter Tryd.func29, Tryd.ntmps29
        go_wp2_with (first | (go_at_call 102; (with_reducible refine (HO.out _).mono ?_); rintro e w' ⟨rfl, hb⟩; have HB1 := Lib.hid (HB0.out.trans (hb.mono HB0.out.size)); clear hb) | (go_at_call 103; (with_reducible refine (HQ.out _ (HL.out.below HB1.out)).mono ?_); rintro e w' ⟨rfl, hb⟩; have HB2 := Lib.hid (HB1.out.trans (hb.mono HB1.out.size)); clear hb))
        go_ret
        exact ⟨by simp, HB2.out⟩
    | false =>
      by_cases hc : 4 < v
      · have HO := Lib.hid (fun W => modeOf_ansi n W)
        have HQ := Lib.hid (fun W h => rep_ansi_big n v h0 h1 (by omega) (by omega) W h)
        have hif : (if 4 < v then (0 : Int) else v) = 0 := if_pos hc
        rw [hif]
        clear h0 h1 h2 h3 hif hc
        go_enter Tryd.func29, Tryd.ntmps29
        go_wp2_with (first | (go_at_call 102; (with_reducible refine (HO.out _).mono ?_); rintro e w' ⟨rfl, hb⟩; have HB1 := Lib.hid (HB0.out.trans (hb.mono HB0.out.size)); clear hb) | (go_at_call 103; (with_reducible refine (HQ.out _ (HL.out.below HB1.out)).mono ?_); rintro e w' ⟨rfl, hb⟩; have HB2 := Lib.hid (HB1.out.trans (hb.mono HB1.out.size)); clear hb))
        go_ret
        exact ⟨by simp, HB2.out⟩
      · have HO := Lib.hid (fun W => modeOf_ansi n W)
        have HQ := Lib.hid (fun W h => rep_ansi_small n v h0 h1 (by omega) (by omega) W h)
        have hif : (if 4 < v then (0 : Int) else v) = v := if_neg hc
        rw [hif]
        clear h0 h1 h2 h3 hif hc
        go_enter Tryd.func29, Tryd.ntmps29
        go_wp2_with (first | (go_at_call 102; (with_reducible refine (HO.out _).mono ?_); rintro e w' ⟨rfl, hb⟩; have HB1 := Lib.hid (HB0.out.trans (hb.mono HB0.out.size)); clear hb) | (go_at_call 103; (with_reducible refine (HQ.out _ (HL.out.below HB1.out)).mono ?_); rintro e w' ⟨rfl, hb⟩; have HB2 := Lib.hid (HB1.out.trans (hb.mono HB1.out.size)); clear hb))
        go_ret
        exact ⟨by simp, HB2.out⟩
  · cases h
end Go.Proofs.YtplmmblofhhikaaDoor.Or
