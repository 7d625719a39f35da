/- xansi.setMode at none and one, SetMode, ResetMode, DeviceStatusReport, by hand. -/
import Derived.Test.YtakjcihjkagnfaaDoorModesS
namespace Go.Proofs.YtakjcihjkagnfaaDoor.Mo
set_option linter.unusedVariables false
set_option linter.unusedSimpArgs false
open Go Go.RowKit Go.Proofs.YtakjcihjkagnfaaDoor.PM Go.Proofs.YtakjcihjkagnfaaDoor.Or Go.Proofs.YtakjcihjkagnfaaDoor.Dig Go.Proofs.YtakjcihjkagnfaaDoor.Mp Go.Proofs.YtakjcihjkagnfaaDoorW.PrintWords Go.Proofs.YtakjcihjkagnfaaDoorW.PrintLast Go.Proofs.YtakjcihjkagnfaaDoorW.PrintMore

set_option maxHeartbeats 8000000 in
set_option maxRecDepth 100000 in
theorem setMode_none (r : Bool) (A0 : Option Addr) (c0 : Nat) (w : World) :
    Calls Tryd.prog 54 #[.bool r, .slice A0 0 c0] w fun e w' => e = .returned (.string ⟨#[]⟩) ∧ Below w.heap.size w w' := by
  go_enter Tryd.func54, Tryd.ntmps54
  go_wp2
  go_ret
  exact ⟨rfl, Below.refl _ _⟩
set_option maxHeartbeats 8000000 in
set_option maxRecDepth 100000 in
theorem setMode_one (r : Bool) (A0 : Option Addr) (c0 : Nat) (s : S31) (w : World) (hr0 : Kd.C kM w A0 1 [s]) (hin : InM [s]) (hLD : Laid w) :
    Calls Tryd.prog 54 #[.bool r, .slice A0 1 c0] w fun e w' => e = .returned (.string (setT r [s])) ∧ Below w.heap.size w w' := by
  have HL := Lib.hid hLD
  obtain ⟨ad, e0, hx⟩ := at_M hr0 0 (by decide) (by decide)
  cases e0
  have hin2 := hin s (List.mem_singleton.2 rfl)
  replace hx : w.cell? (ad.add (0 : Int).toNat) = some (encM s) := hx
  obtain ⟨b, n⟩ := s
  have hds := dig_size n hin2.1 hin2.2
  have HIT := Aside0.mk (fun (W : World) (hb : Below w.heap.size w W) => itoa_calls n hin2.1 hin2.2 W (HL.out.below hb))
  clear hr0 hin hLD hin2
  have ta := is_dec
  have tb := is_ansi
  have tc := is_ansi2
  have hm1 := meth_dec
  have hm2 := meth_ansi
  cases r <;> cases b
  case false.true =>
    replace hx : w.cell? ad = some (.iface 70 (.int .i64 n)) := by first | exact hx | simpa [Addr.add] using hx
    go_enter Tryd.func54, Tryd.ntmps54
    go_wp2_with fail
    refine (mode_dec n _).mono ?_
    rintro e w5 ⟨rfl, rfl⟩
    go_wp2_with fail
    refine (HIT.out _ (Below.refl _ _)).mono ?_
    rintro e w6 ⟨rfl, hb6⟩
    have HB := Aside0.mk hb6
    clear hb6
    go_wp2
    go_ret
    exact ⟨rfl, HB.out⟩
  case true.true =>
    replace hx : w.cell? ad = some (.iface 70 (.int .i64 n)) := by first | exact hx | simpa [Addr.add] using hx
    go_enter Tryd.func54, Tryd.ntmps54
    go_wp2_with fail
    refine (mode_dec n _).mono ?_
    rintro e w5 ⟨rfl, rfl⟩
    go_wp2_with fail
    refine (HIT.out _ (Below.refl _ _)).mono ?_
    rintro e w6 ⟨rfl, hb6⟩
    have HB := Aside0.mk hb6
    clear hb6
    go_wp2
    go_ret
    exact ⟨rfl, HB.out⟩
  case false.false =>
    replace hx : w.cell? ad = some (.iface 71 (.int .i64 n)) := by first | exact hx | simpa [Addr.add] using hx
    go_enter Tryd.func54, Tryd.ntmps54
    go_wp2_with fail
    refine (mode_ansi n _).mono ?_
    rintro e w5 ⟨rfl, rfl⟩
    go_wp2_with fail
    refine (HIT.out _ (Below.refl _ _)).mono ?_
    rintro e w6 ⟨rfl, hb6⟩
    have HB := Aside0.mk hb6
    clear hb6
    go_wp2
    go_ret
    exact ⟨rfl, HB.out⟩
  case true.false =>
    replace hx : w.cell? ad = some (.iface 71 (.int .i64 n)) := by first | exact hx | simpa [Addr.add] using hx
    go_enter Tryd.func54, Tryd.ntmps54
    go_wp2_with fail
    refine (mode_ansi n _).mono ?_
    rintro e w5 ⟨rfl, rfl⟩
    go_wp2_with fail
    refine (HIT.out _ (Below.refl _ _)).mono ?_
    rintro e w6 ⟨rfl, hb6⟩
    have HB := Aside0.mk hb6
    clear hb6
    go_wp2
    go_ret
    exact ⟨rfl, HB.out⟩
theorem setMode_ (r : Bool) (A0 : Option Addr) (c0 : Nat) (l : List S31) (w : World) (hr0 : Kd.C kM w A0 l.length l) (hl : l.length ≤ 100) (hin : InM l) (hLD : Laid w) :
    Calls Tryd.prog 54 #[.bool r, .slice A0 l.length c0] w fun e w' => e = .returned (.string (setT r l)) ∧ Below w.heap.size w w' := by
  match l, hr0, hl, hin with
  | [], _, _, _ => exact setMode_none r A0 c0 w
  | [s], h, _, hi => exact setMode_one r A0 c0 s w h hi hLD
  | x :: y :: l, h, hl, hi => exact setMode_many r A0 c0 _ w h hl (by simp) hi hLD
set_option maxRecDepth 100000 in
theorem SetMode_ (A0 : Option Addr) (c0 : Nat) (l : List S31) (w : World) (hr0 : Kd.C kM w A0 l.length l) (hl : l.length ≤ 100) (hin : InM l) (hLD : Laid w) :
    Calls Tryd.prog 11 #[.slice A0 l.length c0] w fun e w' => e = .returned (.string (setT false l)) ∧ Below w.heap.size w w' := by
  have H1 := Aside0.mk (setMode_ false A0 c0 l w hr0 hl hin hLD)
  clear hr0 hl hin hLD
  obtain ⟨T, hT⟩ : ∃ T, T = setT false l := ⟨_, rfl⟩
  rw [← hT] at H1 ⊢
  clear hT
  go_enter Tryd.func11, Tryd.ntmps11
  go_wp2_with fail
  refine H1.out.mono ?_
  rintro e w1 ⟨rfl, hb⟩
  have HB := Aside0.mk hb
  clear hb
  go_wp2
  go_ret
  exact ⟨rfl, HB.out⟩
set_option maxRecDepth 100000 in
theorem ResetMode_ (A0 : Option Addr) (c0 : Nat) (l : List S31) (w : World) (hr0 : Kd.C kM w A0 l.length l) (hl : l.length ≤ 100) (hin : InM l) (hLD : Laid w) :
    Calls Tryd.prog 13 #[.slice A0 l.length c0] w fun e w' => e = .returned (.string (setT true l)) ∧ Below w.heap.size w w' := by
  have H1 := Aside0.mk (setMode_ true A0 c0 l w hr0 hl hin hLD)
  clear hr0 hl hin hLD
  obtain ⟨T, hT⟩ : ∃ T, T = setT true l := ⟨_, rfl⟩
  rw [← hT] at H1 ⊢
  clear hT
  go_enter Tryd.func13, Tryd.ntmps13
  go_wp2_with fail
  refine H1.out.mono ?_
  rintro e w1 ⟨rfl, hb⟩
  have HB := Aside0.mk hb
  clear hb
  go_wp2
  go_ret
  exact ⟨rfl, HB.out⟩

end Go.Proofs.YtakjcihjkagnfaaDoor.Mo
