/- The walk of the law FnTmux, by hand: what is passed through tmux is read back byte by byte. -/
import Derived.Test.YtjjkagjdbjpikaaGreatDoorPZx3
import Derived.Test.YtjjkagjdbjpikaaGreatDoorTmuxW
import Derived.Test.YtjjkagjdbjpikaaGreatDoorExt2
import Derived.Laws.MakeOwn
import Derived.Deep.DeepCutAuto
namespace Go.Proofs.YtjjkagjdbjpikaaGreatDoor.TmuxL
set_option linter.unusedVariables false
set_option linter.unusedSimpArgs false
open Go Go.RowKit Go.Proofs.YtjjkagjdbjpikaaGreatDoorW.PrintWords Go.Proofs.YtjjkagjdbjpikaaGreatDoorW.PrintLast Go.Proofs.YtjjkagjdbjpikaaGreatDoorW.PrintMore Go.Proofs.YtjjkagjdbjpikaaGreatDoor.Or Go.Proofs.YtjjkagjdbjpikaaGreatDoor.PZ

/-- Bytes as numbers. -/
def ub (l : List UInt8) : List Int := l.map fun b => (b.toNat : Int)
theorem infoA8 : (Tryz.prog.info? 5).map (fun i => (i.zero, i.size, i.bytes)) = some (some (.int .u8 0), 1, 1) := by kernel_rfl
theorem strOf_ub (l : List UInt8) : strOfNums (ub l) = ⟨l.toArray⟩ := by
  unfold strOfNums ub
  congr 1
  congr 1
  rw [List.map_map]
  conv => rhs; rw [← List.map_id l]
  apply List.map_congr_left
  intro b _
  show UInt8.ofNat ((b.toNat : Int)).toNat = b
  simp
theorem tmux_list (s : ByteArray) : (tmuxT s).data.toList = [27, 80, 116, 109, 117, 120, 59] ++ (dbl s.data.toList ++ [27, 92]) := by
  simp [tmuxT, dblB, ByteArray.data_append]
theorem dbl_nil {l : List UInt8} (h : dbl l = []) : l = [] := by
  cases l with
  | nil => rfl
  | cons c t =>
    unfold dbl at h
    split at h <;> cases h

/-- What is in the bytes behind the conversion. -/
theorem tm_cell (W : World) (s : ByteArray) (hs : (tmuxT s).size ≤ 9223372036854775807) (e : TypeId) (k : Nat) (hk : k < (dbl s.data.toList).length) :
    (Lib.bytesWorld W e (tmuxT s)).cell? ⟨W.heap.size, 7 + k, none⟩ = some (.int .u8 ((ub (dbl s.data.toList)).getD k 0)) := by
  have hsz : (tmuxT s).size = (dbl s.data.toList).length + 9 := by
    have h : (tmuxT s).data.toList.length = (tmuxT s).size := Array.length_toList
    rw [← h, tmux_list]
    simp only [List.length_append, List.length_cons, List.length_nil]
    omega
  rw [Lib.bytesWorld_cell W e (tmuxT s) (7 + k) (by omega), tmux_list]
  congr 2
  unfold ub
  rw [List.getD_eq_getElem?_getD, List.getD_eq_getElem?_getD, List.getElem?_map, List.getElem?_append_right (by simp)]
  simp only [List.length_cons, List.length_nil]
  rw [show 7 + k - (0 + 1 + 1 + 1 + 1 + 1 + 1 + 1) = k by omega, List.getElem?_append_left hk, List.getElem?_eq_getElem hk]
  simp

theorem cv_front (W : World) (s : ByteArray) (hs : (tmuxT s).size ≤ 9223372036854775807) (c : Nat) :
    (convert 24 9 (.slice (some ⟨W.heap.size, 0, none⟩) 7 c)).run Tryz.prog (Lib.bytesWorld W 5 (tmuxT s)) = .ok (.string ⟨#[27, 80, 116, 109, 117, 120, 59]⟩) (Lib.bytesWorld W 5 (tmuxT s)) := by
  have hb : bytesOf (tmuxT s) = ub ([27, 80, 116, 109, 117, 120, 59] ++ (dbl s.data.toList ++ [27, 92])) := by unfold bytesOf ub; rw [tmux_list]
  have h := Kd.C_take (m := 7) (Go.Proofs.YtjjkagjdbjpikaaGreatDoor.Ext.C_bytes W 5 (tmuxT s) hs) (by rw [hb]; simp [ub])
  have e : (bytesOf (tmuxT s)).take 7 = ub [27, 80, 116, 109, 117, 120, 59] := by rw [hb]; simp [ub]
  rw [e] at h
  have h2 := Kd.C_string (P := Tryz.prog) (A := some ⟨W.heap.size, 0, none⟩) (c := c) Tryz.underlying24 Tryz.underlying5 Tryz.underlying9 h
  rw [strOf_ub] at h2
  exact h2
theorem cv_back (W : World) (s : ByteArray) (hs : (tmuxT s).size ≤ 9223372036854775807) (c : Nat) :
    (convert 24 9 (.slice (some ⟨W.heap.size, (dbl s.data.toList).length + 7, none⟩) 2 c)).run Tryz.prog (Lib.bytesWorld W 5 (tmuxT s)) = .ok (.string ⟨#[27, 92]⟩) (Lib.bytesWorld W 5 (tmuxT s)) := by
  have hb : bytesOf (tmuxT s) = ub ([27, 80, 116, 109, 117, 120, 59] ++ (dbl s.data.toList ++ [27, 92])) := by unfold bytesOf ub; rw [tmux_list]
  have hl : (bytesOf (tmuxT s)).length = (dbl s.data.toList).length + 9 := by rw [hb]; simp [ub]
  have h := Kd.C_drop (m := (dbl s.data.toList).length + 7) (c := (dbl s.data.toList).length + 9) (Go.Proofs.YtjjkagjdbjpikaaGreatDoor.Ext.C_bytes W 5 (tmuxT s) hs) (by omega) (by omega)
  have e : (bytesOf (tmuxT s)).drop ((dbl s.data.toList).length + 7) = ub [27, 92] := by
    rw [hb]
    unfold ub
    rw [← List.map_drop, List.drop_append, List.drop_append]
    simp
  rw [e, if_neg (by omega)] at h
  have ea : (some (⟨W.heap.size, 0, none⟩ : Addr)).map (fun x => x.add (((dbl s.data.toList).length + 7) * (Kd.int .u8).sz)) = some ⟨W.heap.size, (dbl s.data.toList).length + 7, none⟩ := by
    show some (Addr.add _ (((dbl s.data.toList).length + 7) * 1)) = _
    rw [Nat.mul_one, add_plain]
  rw [ea] at h
  have h2 := Kd.C_string (P := Tryz.prog) (A := some ⟨W.heap.size, (dbl s.data.toList).length + 7, none⟩) (c := c) Tryz.underlying24 Tryz.underlying5 Tryz.underlying9 h
  rw [strOf_ub] at h2
  exact h2

theorem at_drop {D t : List UInt8} {k : Nat} {c : UInt8} (h : D.drop k = c :: t) : k < D.length ∧ (ub D).getD k 0 = (c.toNat : Int) ∧ D.drop (k + 1) = t := by
  have h1 : k < D.length := by
    rcases Nat.lt_or_ge k D.length with h1 | h1
    · exact h1
    · rw [List.drop_eq_nil_of_le h1] at h
      cases h
  have h2 := List.drop_eq_getElem_cons h1
  rw [h] at h2
  injection h2 with h3 h4
  refine ⟨h1, ?_, h4.symm⟩
  unfold ub
  rw [List.getD_eq_getElem?_getD, List.getElem?_map, List.getElem?_eq_getElem h1, ← h3]
  rfl
theorem take_drop {S t : List UInt8} {j : Nat} {c : UInt8} (h : S.drop j = c :: t) : ub (S.take (j + 1)) = ub (S.take j) ++ [(c.toNat : Int)] := by
  have h1 : j < S.length := by
    rcases Nat.lt_or_ge j S.length with h1 | h1
    · exact h1
    · rw [List.drop_eq_nil_of_le h1] at h
      cases h
  have h2 := List.drop_eq_getElem_cons h1
  rw [h] at h2
  injection h2 with h3 h4
  rw [List.take_add_one, List.getElem?_eq_getElem h1, ← h3]
  simp [ub]

set_option maxHeartbeats 8000000 in
set_option maxRecDepth 100000 in
theorem body (s : ByteArray) (w : World) (hLD : Laid w) (hs : s.size ≤ 2000) (hmk : impl_MakeText.f 11 s = some (tmuxT s)) (haw : laws_makeAwake.f = some true) :
    Calls Tryz.prog 4 #[.string s] w fun e w' => e = .returned (.bool true) ∧ Below w.heap.size w w' := by
  have t0 : decide ((s.size : Int) > 2147483647) = false := decide_eq_false (by omega)
  have t0' : decide (2147483647 < s.size) = false := decide_eq_false (by omega)
  have t1' : decide (2000 < s.size) = false := decide_eq_false (by omega)
  have HLD := Lib.hid hLD
  have HMK := Lib.hid hmk
  have HAW := Lib.hid haw
  clear hLD hmk haw
  go_enter Tryz.func4, Tryz.ntmps4
  go_wp2_with fail
  refine (impl_MakeText.calls 11 s (tmuxT s) w HMK.out).mono ?_
  rintro e w1 ⟨rfl, hb1⟩
  have hl : (tmuxT s).size = (dbl s.data.toList).length + 9 := by
    have h : (tmuxT s).data.toList.length = (tmuxT s).size := Array.length_toList
    rw [← h, tmux_list]
    simp only [List.length_append, List.length_cons, List.length_nil]
    omega
  have hdl := dbl_len s.data.toList
  have hsl : s.data.toList.length = s.size := Array.length_toList
  have hm : (tmuxT s).size ≤ 9223372036854775807 := by omega
  obtain ⟨cap, hcap⟩ : ∃ c, c = grownCap w1 (tmuxT s).size 0 5 := ⟨_, rfl⟩
  obtain ⟨B, hB⟩ : ∃ b, b = w1.heap.size := ⟨_, rfl⟩
  have hcle : (tmuxT s).size ≤ cap := by rw [hcap]; exact grownCap_ge _ _ _ _
  have hf1 := cv_front w1 s hm cap
  have hf2 := cv_back w1 s hm (cap - ((dbl s.data.toList).length + 7))
  have HCE := Lib.hid (tm_cell w1 s hm 5)
  have hconv := print_bytes (P := Tryz.prog) 9 24 5 Tryz.underlying9 Tryz.underlying24 Tryz.underlying5 (tmuxT s) w1
  have hBel : Below w.heap.size w (Lib.bytesWorld w1 5 (tmuxT s)) := bytes_below hb1 (below_size hb1) _ _
  obtain ⟨WB, hWB⟩ : ∃ W, W = Lib.bytesWorld w1 5 (tmuxT s) := ⟨_, rfl⟩
  have HBB : Hid (w.heap.size ≤ B) := Lib.hid (by rw [hB]; exact hb1.size)
  have HBL : Hid (B < WB.heap.size) := Lib.hid (by rw [hB, hWB, Lib.bytesWorld_size]; omega)
  rw [← hWB] at hf1 hf2 HCE hconv hBel
  rw [← hcap, ← hB] at hconv
  rw [← hB] at hf1 hf2 HCE
  have HS := Lib.hid (show (tmuxT s).size = (dbl s.data.toList).length + 9 from hl)
  obtain ⟨m, hmm⟩ : ∃ m, m = (dbl s.data.toList).length := ⟨_, rfl⟩
  rw [hl] at hconv hcle
  rw [← hmm] at hconv hcle hf2 HCE hl hdl
  have HM := Lib.hid hmm
  have HBel := Lib.hid hBel
  have HSL := Lib.hid hsl
  obtain ⟨T, hT⟩ : ∃ T, T = tmuxT s := ⟨_, rfl⟩
  rw [← hT] at hconv ⊢
  have hm2 : m ≤ 4000 := by omega
  clear hT hmm hWB hB hcap hl hm hBel hsl hdl hb1 HS
  go_wp2_with fail
  rw [show m + 9 - 2 - 7 = m by omega]
  go_loopw [4, 5] (fun v i wr => ∃ (k j : Nat), i = .int .i64 k ∧ k ≤ m ∧ Hid ((dbl s.data.toList).drop k = dbl (s.data.toList.drop j)) ∧ Hid (Kd.R (Kd.int .u8) 5 wr WB.heap.size (fun _ => True) v (ub (s.data.toList.take j))) ∧ Hid (Below WB.heap.size WB wr)) (fun _ i _ => m - (intOf i).toNat)
  case atStart => exact ⟨0, 0, rfl, by omega, Lib.hid rfl, Lib.hid (Kd.R_nil _ _ _ _ _), Lib.hid (Below.refl _ _)⟩
  case round =>
    obtain ⟨k, j, rfl, hk, HD, HO, HB⟩ := hrel
    clear hf1 hf2 hconv
    have hlo : (ub (s.data.toList.take j)).length ≤ 2000 := by
      have := HSL.out
      unfold ub
      rw [List.length_map, List.length_take]
      omega
    by_cases hlt : k < m
    · have tlt : decide ((k : Int) < (m : Int)) = true := decide_eq_true (by omega)
      rcases hS : s.data.toList.drop j with _ | ⟨c, t⟩
      · exfalso
        have h := HD.out
        rw [hS] at h
        have h2 := congrArg List.length h
        rw [List.length_drop, ← HM.out] at h2
        simp [dbl] at h2
        omega
      · have HT := Lib.hid (take_drop hS)
        have HS2 := Lib.hid ((List.drop_drop (i := 1) (j := j) (l := s.data.toList)).symm.trans (by rw [hS]; rfl) : s.data.toList.drop (j + 1) = t)
        by_cases h27 : c = 27
        · subst h27
          have hdd : (dbl s.data.toList).drop k = 27 :: 27 :: dbl t := by rw [HD.out, hS]; rfl
          obtain ⟨_, hg1, hd1⟩ := at_drop hdd
          obtain ⟨hk1, hg2, hd2⟩ := at_drop hd1
          have hk1m : k + 1 < m := by rw [HM.out]; exact hk1
          have HD2 := Lib.hid hd2
          have hcA := HCE.out k hlt
          have hcB := HCE.out (k + 1) hk1m
          rw [hg1] at hcA
          rw [hg2] at hcB
          have hcc : ((27 : UInt8).toNat : Int) = 27 := rfl
          rw [hcc] at hcA hcB
          have HA0 := Lib.hid hcA
          have HB0 := Lib.hid hcB
          have hr1 := (HB.out.cell (World.block_lt_of_cell? WB _ hcA)).trans hcA
          have tne : decide ((k : Int) + 1 = (m : Int)) = false := decide_eq_false (by omega)
          clear hS hdd hg1 hg2 hd1 hd2 hk1 hcc hcA hcB
          go_wp2_with (first | ((with_reducible refine gate_builtin (b := .append) (xs := #[.tmp 45, .tmp 50]) rfl ?_); (try (refine gate_guard (by rfl) ?_; dsimp only)); at_builtin; refine Kd.R_append (Kd.int .u8) (w0 := WB) WB.heap.size rfl (.tmp 45) (.tmp 50) 24 5 (.int .u8 0) 1 rfl Tryz.underlying24 infoA8 rfl (by decide) (by omega) _ (ub (s.data.toList.take j)) 27 [.int .u8 27] (fun _ => True) (fun _ => False) rfl rfl rfl (fun _ hk => hk.elim) (fun _ _ => trivial) HO.out HB.out HB.out.size (by omega) ?_; intro v1 w3 ho hb _ _; have HO4 := Lib.hid ho; have HB4 := Lib.hid hb; have hr2 := (hb.cell (World.block_lt_of_cell? WB _ HA0.out)).trans HA0.out; have hr3 := (hb.cell (World.block_lt_of_cell? WB _ HB0.out)).trans HB0.out; clear ho hb))
          go_roundw
          case rel => exact ⟨k + 2, j + 1, by go_num, by omega, Lib.hid (by rw [HD2.out, HS2.out]), Lib.hid (by rw [HT.out]; exact HO4.out), HB4⟩
          case measure => simp [intOf]; omega
        · have hdd : (dbl s.data.toList).drop k = c :: dbl t := by rw [HD.out, hS]; show dbl (c :: t) = _; unfold dbl; rw [if_neg h27]; cases t <;> rfl
          obtain ⟨_, hg1, hd1⟩ := at_drop hdd
          have HD2 := Lib.hid hd1
          have hcA := HCE.out k hlt
          rw [hg1] at hcA
          obtain ⟨C, hC⟩ : ∃ C : Int, C = (c.toNat : Int) := ⟨_, rfl⟩
          rw [← hC] at hcA
          have hne : ¬ C = 27 := by
            intro e
            apply h27
            apply UInt8.toNat_inj.1
            rw [hC] at e
            have : c.toNat = 27 := by omega
            rw [this]; rfl
          have t27' : decide (C = 27) = false := decide_eq_false hne
          have HC := Lib.hid hC
          have HA0 := Lib.hid hcA
          have hr1 := (HB.out.cell (World.block_lt_of_cell? WB _ hcA)).trans hcA
          clear hS hdd hg1 hd1 hcA hC
          go_wp2_with (first | ((with_reducible refine gate_builtin (b := .append) (xs := #[.tmp 45, .tmp 50]) rfl ?_); (try (refine gate_guard (by rfl) ?_; dsimp only)); at_builtin; refine Kd.R_append (Kd.int .u8) (w0 := WB) WB.heap.size rfl (.tmp 45) (.tmp 50) 24 5 (.int .u8 0) 1 rfl Tryz.underlying24 infoA8 rfl (by decide) (by omega) _ (ub (s.data.toList.take j)) C [.int .u8 C] (fun _ => True) (fun _ => False) rfl rfl rfl (fun _ hk => hk.elim) (fun _ _ => trivial) HO.out HB.out HB.out.size (by omega) ?_; intro v1 w3 ho hb _ _; have HO4 := Lib.hid ho; have HB4 := Lib.hid hb; have hr2 := (hb.cell (World.block_lt_of_cell? WB _ HA0.out)).trans HA0.out; clear ho hb))
          go_roundw
          case rel => exact ⟨k + 1, j + 1, by go_num, by omega, Lib.hid (by rw [HD2.out, HS2.out]), Lib.hid (by rw [HT.out, ← HC.out]; exact HO4.out), HB4⟩
          case measure => simp [intOf]; omega
    · have tlt : decide ((k : Int) < (m : Int)) = false := decide_eq_false (by omega)
      have hnil : s.data.toList.drop j = [] := by
        apply dbl_nil
        rw [← HD.out]
        exact List.drop_eq_nil_of_le (by rw [← HM.out]; omega)
      have hall : ub (s.data.toList.take j) = bytesOf s := by
        have : s.data.toList.take j = s.data.toList := by
          conv => rhs; rw [← List.take_append_drop j s.data.toList, hnil, List.append_nil]
        rw [this]; rfl
      rw [hall] at HO
      have hstr : strOfNums (bytesOf s) = s := strOf_ub s.data.toList
      have HW := Lib.hid (HBel.out.trans (HB.out.mono HBel.out.size))
      clear hnil hall
      go_wp2_with fail
      refine (laws_makeAwake.calls true wr (HLD.out.below HW.out) HAW.out).mono ?_
      rintro e w4 ⟨rfl, hb4⟩
      have hcv := own_string (P := Tryz.prog) Tryz.underlying24 Tryz.underlying5 Tryz.underlying9 (Kd.own_of_R (Kd.R_below HO.out hb4))
      rw [hstr] at hcv
      have HW4 := Lib.hid (HW.out.trans (hb4.mono HW.out.size))
      go_wp2
      go_ret
      exact ⟨rfl, HW4.out⟩
set_option maxHeartbeats 4000000 in
theorem big (s : ByteArray) (w : World) (hs : 2147483647 < s.size) (hz : s.size ≤ 140737488351232) :
    Calls Tryz.prog 4 #[.string s] w fun e w' => e = .returned (.bool true) ∧ Below w.heap.size w w' := by
  have t0 : decide ((s.size : Int) > 2147483647) = true := decide_eq_true (by omega)
  have t0' : decide (2147483647 < s.size) = true := decide_eq_true (by omega)
  go_enter Tryz.func4, Tryz.ntmps4
  go_wp2
  go_ret
  exact ⟨rfl, Below.refl _ _⟩
set_option maxHeartbeats 4000000 in
theorem mid (s : ByteArray) (w : World) (hLD : Laid w) (hs : ¬ 2147483647 < s.size) (h2 : 2000 < s.size) (haw : laws_makeAwake.f = some true) :
    Calls Tryz.prog 4 #[.string s] w fun e w' => e = .returned (.bool true) ∧ Below w.heap.size w w' := by
  have t0 : decide ((s.size : Int) > 2147483647) = false := decide_eq_false (by omega)
  have t0' : decide (2147483647 < s.size) = false := decide_eq_false (by omega)
  have t1 : decide ((s.size : Int) > 2000) = true := decide_eq_true (by omega)
  have t1' : decide (2000 < s.size) = true := decide_eq_true (by omega)
  go_enter Tryz.func4, Tryz.ntmps4
  go_wp2_with fail
  refine (laws_makeAwake.calls true w hLD haw).mono ?_
  rintro e w1 ⟨rfl, hb1⟩
  go_wp2
  go_ret
  exact ⟨rfl, hb1⟩

theorem makes (s : ByteArray) (hs : s.size ≤ 2000) : impl_MakeText.f 11 s = some (tmuxT s) := by
  unfold impl_MakeText.f xansi_TmuxPassthrough.f
  rw [if_pos (show s.size ≤ 1000000 by omega)]
  simp
/-- The law's walk. -/
theorem walk (haw : laws_makeAwake.f = some true) (s : ByteArray) (w : World) (hLD : Laid w) (w0 : s.size ≤ 140737488351232) :
    Calls Tryz.prog 4 #[.string s] w fun e w' => e = .returned (.bool true) ∧ Below w.heap.size w w' := by
  by_cases h1 : 2147483647 < s.size
  · exact big s w h1 w0
  by_cases h2 : 2000 < s.size
  · exact mid s w hLD h1 h2 haw
  exact body s w hLD (by omega) (makes s (by omega)) haw
end Go.Proofs.YtjjkagjdbjpikaaGreatDoor.TmuxL
