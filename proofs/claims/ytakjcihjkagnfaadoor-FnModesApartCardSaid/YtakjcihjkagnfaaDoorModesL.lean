/- The law FnMakeModes: what is made is what the reference makes (plain), and the walk of the law. -/
import Derived.Test.YtakjcihjkagnfaaDoorModesM
namespace Go.Proofs.YtakjcihjkagnfaaDoor.Mo
set_option linter.unusedVariables false
set_option linter.unusedSimpArgs false
open Go Go.RowKit Go.Proofs.YtakjcihjkagnfaaDoor.PM Go.Proofs.YtakjcihjkagnfaaDoor.Or Go.Proofs.YtakjcihjkagnfaaDoor.Dig Go.Proofs.YtakjcihjkagnfaaDoor.Mp Go.Proofs.YtakjcihjkagnfaaDoorW.PrintWords Go.Proofs.YtakjcihjkagnfaaDoorW.PrintLast Go.Proofs.YtakjcihjkagnfaaDoorW.PrintMore

theorem kin_nb (b : Bool) (l : List S31) : (nb b (l.map conv)).map dig = kin b l := by
  induction l with
  | nil => rfl
  | cons s l ih =>
    unfold nb kin at ih ⊢
    rw [List.map_cons, List.filter_cons, List.filter_cons]
    show ((if (s.f0 == b) = true then conv s :: _ else _).map _).map dig = _
    by_cases h : (s.f0 == b) = true
    · rw [if_pos h, if_pos h, List.map_cons, List.map_cons, List.map_cons, ih]
      rfl
    · rw [if_neg h, if_neg h, ih]
theorem nb_kin_len (b : Bool) (l : List S31) : (nb b (l.map conv)).length = (kin b l).length := by rw [← kin_nb, List.length_map]
theorem nal_conv (l : List S31) : (nal (l.map conv)).map dig = l.map (fun s => dig s.f1) := by
  unfold nal
  rw [List.map_map, List.map_map]
  rfl
theorem any_kin (l : List S31) : l.any (·.f0) = decide (0 < (kin true l).length) := by
  induction l with
  | nil => rfl
  | cons s l ih =>
    unfold kin at ih ⊢
    rw [List.any_cons, List.filter_cons]
    cases h : s.f0 with
    | true => simp
    | false => simpa using ih
theorem app_none (x : ByteArray) : x ++ (⟨#[]⟩ : ByteArray) = x := ByteArray.append_empty
theorem part_is (out : ByteArray) (b : Bool) (which : Int) (l : List S31) : part out b which (nb b (l.map conv)) = if 0 < (kin b l).length then out ++ ((((⟨#[27, 91]⟩ : ByteArray) ++ mkT b) ++ join ⟨#[59]⟩ (kin b l)) ++ cmdT (decide (which = 1))) else out := by
  unfold part numT
  rw [nb_kin_len, kin_nb]
theorem made_is (which : Int) (h2 : which ≠ 2) (l : List S31) : madeT which (l.map conv) =
    (if 0 < (kin true l).length then (if 0 < (kin false l).length then (⟨#[]⟩ : ByteArray) ++ (((⟨#[27, 91]⟩ : ByteArray) ++ join ⟨#[59]⟩ (kin false l)) ++ cmdT (decide (which = 1))) else ⟨#[]⟩) ++ ((((⟨#[27, 91]⟩ : ByteArray) ++ ⟨#[63]⟩) ++ join ⟨#[59]⟩ (kin true l)) ++ cmdT (decide (which = 1)))
      else (if 0 < (kin false l).length then (⟨#[]⟩ : ByteArray) ++ (((⟨#[27, 91]⟩ : ByteArray) ++ join ⟨#[59]⟩ (kin false l)) ++ cmdT (decide (which = 1))) else ⟨#[]⟩)) := by
  unfold madeT
  rw [if_neg h2, part_is, part_is]
  have e1 : mkT false = ⟨#[]⟩ := rfl
  have e2 : mkT true = ⟨#[63]⟩ := rfl
  rw [e1, e2, app_none]
theorem none_app (x : ByteArray) : (⟨#[]⟩ : ByteArray) ++ x = x := ByteArray.empty_append
theorem set_is (r : Bool) (which : Int) (hr : r = decide (which = 1)) (h2 : which ≠ 2) (l : List S31) : setT r l = madeT which (l.map conv) := by
  rw [made_is which h2 l, ← hr]
  by_cases hl : 2 ≤ l.length
  · exact setT_many r l hl
  · match l, hl with
    | [], _ => rfl
    | [⟨true, n⟩], _ =>
      have h1 : kin true [(⟨true, n⟩ : S31)] = [dig n] := rfl
      have h0 : kin false [(⟨true, n⟩ : S31)] = [] := rfl
      rw [h1, h0, if_pos (show 0 < [dig n].length from Nat.zero_lt_one), if_neg (by decide), none_app]
      rfl
    | [⟨false, n⟩], _ =>
      have h1 : kin true [(⟨false, n⟩ : S31)] = [] := rfl
      have h0 : kin false [(⟨false, n⟩ : S31)] = [dig n] := rfl
      rw [h1, h0, if_neg (by decide), if_pos (show 0 < [dig n].length from Nat.zero_lt_one), none_app]
      rfl
    | _ :: _ :: _, h => exact absurd (by simp) h
theorem same (which : Int) (hw : 0 ≤ which ∧ which ≤ 2) (l : List S31) : makeT which l = madeT which (l.map conv) := by
  rcases (show which = 0 ∨ which = 1 ∨ which = 2 by omega) with rfl | rfl | rfl
  · exact set_is false 0 rfl (by decide) l
  · exact set_is true 1 rfl (by decide) l
  · show dsrT l = _
    unfold dsrT madeT numT
    rw [if_pos rfl, nal_conv, nb_kin_len, any_kin]
    unfold mkT
    by_cases h : 0 < (kin true l).length
    · rw [decide_eq_true h, if_pos rfl, if_pos rfl]
    · rw [decide_eq_false h, if_neg (by decide), if_neg (by decide), app_none]

set_option maxHeartbeats 8000000 in
set_option maxRecDepth 100000 in
theorem walk (which : Int) (A0 : Option Addr) (c0 : Nat) (l : List S31) (w : World) (hr0 : Kd.C k31 w A0 l.length l) (hc : l.length ≤ c0) (hin : InM l) (hLD : Laid w) :
    Calls Tryd.prog 3 #[.int .i64 which, .slice A0 l.length c0] w fun e w' => e = .returned (.bool true) ∧ Below w.heap.size w w' := by
  have HAW := Aside0.mk (laws_makeAwake.calls true w hLD Aw.awake)
  obtain ⟨L, hL⟩ : ∃ L, L = l.length := ⟨_, rfl⟩
  have HL := Aside0.mk hL
  have HR := Aside0.mk hr0
  have HIN := Aside0.mk hin
  have HLD := Lib.hid hLD
  rw [← hL]
  clear hr0 hin hLD hL hc
  by_cases hbig : 2147483647 < (L : Int)
  · have t0 : decide (2147483647 < (L : Int)) = true := decide_eq_true hbig
    clear hbig
    go_enter Tryd.func3, Tryd.ntmps3
    go_wp2
    go_ret
    exact ⟨rfl, Below.refl _ _⟩
  have t0 : decide (2147483647 < (L : Int)) = false := decide_eq_false hbig
  clear hbig
  by_cases h0 : which < 0
  · have t1 : decide (which < 0) = true := decide_eq_true h0
    go_enter Tryd.func3, Tryd.ntmps3
    go_wp2_with fail
    refine HAW.out.mono ?_
    rintro e w1 ⟨rfl, hb⟩
    have HB := Aside0.mk hb
    clear hb
    go_wp2
    go_ret
    exact ⟨rfl, HB.out⟩
  have t1 : decide (which < 0) = false := decide_eq_false h0
  by_cases h2 : 2 < which
  · have t2 : decide (2 < which) = true := decide_eq_true h2
    go_enter Tryd.func3, Tryd.ntmps3
    go_wp2_with fail
    refine HAW.out.mono ?_
    rintro e w1 ⟨rfl, hb⟩
    have HB := Aside0.mk hb
    clear hb
    go_wp2
    go_ret
    exact ⟨rfl, HB.out⟩
  have t2 : decide (2 < which) = false := decide_eq_false h2
  by_cases h3 : 100 < (L : Int)
  · have t3 : decide (100 < (L : Int)) = true := decide_eq_true h3
    go_enter Tryd.func3, Tryd.ntmps3
    go_wp2_with fail
    refine HAW.out.mono ?_
    rintro e w1 ⟨rfl, hb⟩
    have HB := Aside0.mk hb
    clear hb
    go_wp2
    go_ret
    exact ⟨rfl, HB.out⟩
  have t3 : decide (100 < (L : Int)) = false := decide_eq_false h3
  have HW := Aside0.mk (show 0 ≤ which ∧ which ≤ 2 by omega)
  have HL2 := Aside0.mk (show L ≤ 100 by omega)
  obtain ⟨T, hT⟩ : ∃ T, T = makeT which l := ⟨_, rfl⟩
  have HT := Aside0.mk hT
  clear h0 h2 h3 hT
  have HLI := Aside0.mk (show Mp.In (nal (l.map conv)) from fun x hx => by
    unfold nal at hx
    rw [List.map_map] at hx
    obtain ⟨s, hs, e⟩ := List.mem_map.1 hx
    have := HIN.out s hs
    rw [← e]
    exact this)
  go_enter Tryd.func3, Tryd.ntmps3
  go_wp2_with fail
  refine HAW.out.mono ?_
  rintro e w1 ⟨rfl, hb⟩
  have HB1 := Aside0.mk hb
  clear hb
  go_wp2_with fail
  refine (show Calls Tryd.prog 6 #[.int .i64 which, .slice A0 L c0] w1 fun e w' => e = .returned (.string T) ∧ Below w1.heap.size w1 w' by
    have h_ := make_ which HW.out A0 c0 l w1 (Kd.C_below HR.out HB1.out) (by have := HL.out; have := HL2.out; omega) HIN.out (HLD.out.below HB1.out)
    rw [← HL.out, ← HT.out] at h_
    exact h_).mono ?_
  rintro e w2 ⟨rfl, hb⟩
  have HB2 := Aside0.mk (below_step HB1.out hb)
  clear hb
  go_wp2_with fail
  refine (show Calls Tryd.prog 8 #[.slice A0 L c0] w2 fun e w' => ∃ v : Value, e = .returned v ∧ Kd.R k51 51 w' w2.heap.size (fun _ => True) v (l.map conv) ∧ Below w2.heap.size w2 w' by
    have h_ := makeModes_ A0 c0 l w2 (Kd.C_below HR.out HB2.out) (by have := HL.out; have := HL2.out; omega)
    rw [← HL.out] at h_
    exact h_).mono ?_
  rintro e w3 ⟨v3, rfl, hr3, hb⟩
  have HB3 := Aside0.mk (below_step HB2.out hb)
  obtain ⟨A3, c3, e3⟩ : ∃ A c, v3 = .slice A L c := by
    obtain ⟨A, c, e⟩ := Kd.R_slice hr3
    exact ⟨A, c, by rw [e, List.length_map, HL.out]⟩
  subst e3
  have HC3 := Aside0.mk (show Kd.C k51 w3 A3 (l.map conv).length (l.map conv) by
    have h := (Kd.R_reads' hr3).2.2
    first | exact h | (rw [List.length_map, ← HL.out]; exact h))
  clear hr3 hb
  go_wp2_with fail
  refine (show Calls Tryd.prog 7 #[.int .i64 which, .slice A3 L c3] w3 fun e w' => e = .returned (.string T) ∧ Below w3.heap.size w3 w' by
    have h_ := made_ A3 c3 which (l.map conv) w3 HC3.out (by rw [List.length_map]; have := HL.out; have := HL2.out; omega) HLI.out HW.out
    rw [List.length_map, ← HL.out, ← same which HW.out l, ← HT.out] at h_
    exact h_).mono ?_
  rintro e w4 ⟨rfl, hb⟩
  have HB4 := Aside0.mk (below_step HB3.out hb)
  clear hb
  go_wp2
  go_ret
  exact ⟨rfl, HB4.out⟩

end Go.Proofs.YtakjcihjkagnfaaDoor.Mo
