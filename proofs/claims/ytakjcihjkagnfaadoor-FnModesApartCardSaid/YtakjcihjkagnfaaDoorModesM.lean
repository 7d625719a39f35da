/- impl.MakeModes and the law's conversion of modes, by hand. -/
import Derived.Test.YtakjcihjkagnfaaDoorModesX
import Derived.Test.YtakjcihjkagnfaaDoorAwakeM
namespace Go.Proofs.YtakjcihjkagnfaaDoor.Mo
set_option linter.unusedVariables false
set_option linter.unusedSimpArgs false
open Go Go.RowKit Go.Proofs.YtakjcihjkagnfaaDoor.PM Go.Proofs.YtakjcihjkagnfaaDoor.Or Go.Proofs.YtakjcihjkagnfaaDoor.Dig Go.Proofs.YtakjcihjkagnfaaDoor.Mp Go.Proofs.YtakjcihjkagnfaaDoorW.PrintWords Go.Proofs.YtakjcihjkagnfaaDoorW.PrintLast Go.Proofs.YtakjcihjkagnfaaDoorW.PrintMore

theorem info51' : (Tryd.prog.info? 51).map (fun i => (i.zero, i.size, i.bytes)) = some (some (.agg #[(.bool false), (.int .i64 0)]), 2, 16) := by kernel_rfl
def conv (s : S31) : S51 := ⟨s.f0, s.f1⟩
set_option maxHeartbeats 8000000 in
set_option maxRecDepth 100000 in
theorem makeModes_ (A0 : Option Addr) (c0 : Nat) (l : List S31) (w : World) (hr0 : Kd.C k31 w A0 l.length l) (hl : l.length ≤ 100000) :
    Calls Tryd.prog 8 #[.slice A0 l.length c0] w fun e w' => ∃ v : Value, e = .returned v ∧ Kd.R k51 51 w' w.heap.size (fun _ => True) v (l.map conv) ∧ Below w.heap.size w w' := by
  have hu31 := Tryd.underlying31
  have HR0 := Aside0.mk hr0
  clear hr0
  go_enter Tryd.func8, Tryd.ntmps8
  go_wp2
  go_loopw [3, 8] (fun v3 v8 wr => ∃ (J : Int) (k : Nat), v8 = .int .i64 J ∧ Aside0 (J = (k : Int)) ∧ Aside0 (k ≤ l.length) ∧ Aside0 (Kd.R k51 51 wr w.heap.size (fun _ => True) v3 ((l.take k).map conv)) ∧ Aside0 (Below w.heap.size w wr)) (fun _ v8 _ => l.length - (intOf v8).toNat)
  case atStart => exact ⟨0, 0, rfl, ⟨rfl⟩, ⟨Nat.zero_le _⟩, ⟨Kd.R_nil _ _ _ _ _⟩, ⟨Below.refl _ _⟩⟩
  case round =>
    obtain ⟨J, k, rfl, HJ, HK, HO, HB⟩ := hrel
    by_cases hlt : k < l.length
    · have hj := HJ.out
      have tlt : decide (J < (l.length : Int)) = true := decide_eq_true (by omega)
      have p0 : 0 ≤ J := by omega
      have q0 : J < (l.length : Int) := by omega
      have hwr : wrap64 (J + 1) = J + 1 := by unfold wrap64; omega
      obtain ⟨y, hy⟩ : ∃ y, y = (l.take k).map conv := ⟨_, rfl⟩
      rw [← hy] at HO
      have hyl : y.length = k := by rw [hy, List.length_map, List.length_take]; omega
      have hys0 := take_at l k hlt
      rw [← hj] at hys0
      obtain ⟨ad, e0, hx0, hx1⟩ := at_T31 HR0.out J p0 q0
      cases e0
      replace hx0 := (HB.out.cell (World.block_lt_of_cell? w _ hx0)).trans hx0
      replace hx1 := (HB.out.cell (World.block_lt_of_cell? w _ hx1)).trans hx1
      obtain ⟨s, hs⟩ : ∃ s, s = rd_T31 l J := ⟨_, rfl⟩
      rw [← hs] at hx0 hx1 hys0
      obtain ⟨b, n⟩ := s
      have HYS := Aside0.mk (show (l.take (k + 1)).map conv = y ++ [(⟨b, n⟩ : S51)] by rw [hys0, List.map_append, hy]; rfl)
      have HYL := Aside0.mk hyl
      clear hj hy hys0 hyl hs
      replace p0 := eq_true p0
      replace q0 := eq_true q0
      go_upto_region 5 with (first | ((with_reducible refine gate_dst (N := 5) rfl ?_); refine box_event ?hg (N := 5) ?hd (cs := #[.bool false, .int .i64 0]) (t := 31) ?hr ?_; (case hd => rfl); (case hg => rfl); (case hr => first | (go_simp; done) | (go_simp; rfl)); intro g8 hg wb8 hbox hb; have GE8 := Aside0.mk hg; have BK := Aside0.mk hbox; have HBX := Aside0.mk hb; clear hbox hb hg; have hz0 : wb8.cell? ⟨g8, 0, none⟩ = some (.bool false) := (blk_cell BK.out 0).trans rfl; have hz1 : wb8.cell? ⟨g8, 1, none⟩ = some (.int .i64 0) := (blk_cell BK.out 1).trans rfl; have hf0 := blk_frozen BK.out 0; have hf1 := blk_frozen BK.out 1) | fail)
      have hgE : wr.heap.size ≤ g8 := by rw [GE8.out]; exact Nat.le_refl _
      obtain ⟨w8, hw8⟩ : ∃ W, W = (wb8.setCell ⟨g8, 0, none⟩ (.bool b)).setCell ⟨g8, 1, none⟩ (.int .i64 n) := ⟨_, rfl⟩
      have HB7 := Aside0.mk (show Below wr.heap.size wr w8 by rw [hw8]; exact below_set (below_set HBX.out hgE) hgE)
      have BK8 := Aside0.mk (show w8.heap[g8]? = some (.cells #[.bool b, .int .i64 n] 31 (0, 0)) by rw [hw8]; exact (blk_set (blk_set BK.out 0 _) 1 _).trans rfl)
      have hc80 : w8.cell? ⟨g8, 0, none⟩ = some (.bool b) := (blk_cell BK8.out 0).trans rfl
      have hc8 : w8.cell? ⟨g8, 1, none⟩ = some (.int .i64 n) := (blk_cell BK8.out 1).trans rfl
      rw [← hw8]
      have HO7 := Aside0.mk (Kd.R_below HO.out HB7.out)
      have HB8 := Aside0.mk (below_step HB.out HB7.out)
      clear hw8 HBX BK hz0 hz1 hf0 hf1 hx0 hx1 hgE GE8 HO HB HB7
      go_wp2_with (first | ((with_reducible refine gate_builtin (b := .append) (xs := #[.tmp 12, .tmp 14]) rfl ?_); at_builtin; refine Kd.R_append k51 (w0 := w) w.heap.size rfl (.tmp 12) (.tmp 14) 26 51 (.agg #[(.bool false), (.int .i64 0)]) 16 rfl Tryd.underlying26 info51' rfl (by decide) (by omega) u3 y (⟨b, n⟩ : S51) [.bool b, .int .i64 n] (fun _ => True) (fun _ => False) rfl rfl ?aP (fun _ hk => hk.elim) ?aF ?aO ?aB ?aS ?aL ?_; (case aP => exact k51_mkM _ _ _ (⟨b, n⟩ : S51)); (case aB => exact HB8.out); (case aF => exact (fun _ _ => trivial)); (case aO => exact HO7.out); (case aS => exact (below_size HB8.out)); (case aL => have := HYL.out; omega); intro v1 w1 ho hb hg hat; rw [← HYS.out] at ho; have HO1 := Aside0.mk ho; have HB1 := Aside0.mk hb; clear ho hb hg hat) | fail)
      go_roundw
      case rel => exact ⟨wrap64 (J + 1), k + 1, rfl, ⟨by rw [hwr, HJ.out]; rfl⟩, ⟨hlt⟩, HO1, HB1⟩
      case measure =>
        have := HJ.out
        rw [hwr]
        simp [intOf]
        omega
    · have hj := HJ.out
      have tlt : decide (J < (l.length : Int)) = false := decide_eq_false (by omega)
      obtain rfl : k = l.length := by have := HK.out; omega
      clear hj
      rw [List.take_length] at HO
      go_wp2
      go_ret
      exact ⟨_, rfl, HO.out, HB.out⟩

def makeT (which : Int) (l : List S31) : ByteArray := if which = 0 then setT false l else if which = 1 then setT true l else dsrT l

set_option maxHeartbeats 8000000 in
set_option maxRecDepth 100000 in
theorem make01 (which : Int) (hw : which = 0 ∨ which = 1) (A0 : Option Addr) (c0 : Nat) (l : List S31) (w : World) (hr0 : Kd.C k31 w A0 l.length l) (hl : l.length ≤ 100) (hin : InM l) (hLD : Laid w) :
    Calls Tryd.prog 6 #[.int .i64 which, .slice A0 l.length c0] w fun e w' => e = .returned (.string (makeT which l)) ∧ Below w.heap.size w w' := by
  have HMO := Aside0.mk (modesOf_ A0 c0 l w hr0 (by omega))
  obtain ⟨L, hL⟩ : ∃ L, L = l.length := ⟨_, rfl⟩
  have HL := Aside0.mk hL
  rcases hw with rfl | rfl
  · obtain ⟨T, hT⟩ : ∃ T, T = setT false l := ⟨_, rfl⟩
    have HS := Aside0.mk (fun (A : Option Addr) (c : Nat) (W : World) (hC : Kd.C kM W A l.length l) (hb : Below w.heap.size w W) => SetMode_ A c l W hC hl hin (hLD.below hb))
    rw [show makeT 0 l = T by rw [hT]; rfl]
    rw [← hT] at HS
    rw [← hL] at HMO HS ⊢
    clear hr0 hl hin hLD hT hL
    go_enter Tryd.func6, Tryd.ntmps6
    go_wp2_with fail
    refine HMO.out.mono ?_
    rintro e w5 ⟨v5, rfl, hr5, hb5⟩
    obtain ⟨A5, c5, e5⟩ : ∃ A c, v5 = .slice A L c := by
      obtain ⟨A, c, e⟩ := Kd.R_slice hr5
      exact ⟨A, c, by rw [e, HL.out]⟩
    subst e5
    have HC5 := Aside0.mk (show Kd.C kM w5 A5 l.length l by
      have h := (Kd.R_reads' hr5).2.2
      first | exact h | (rw [← HL.out]; exact h))
    have HB5 := Aside0.mk hb5
    clear hr5 hb5
    go_wp2_with fail
    refine (HS.out A5 c5 w5 (by have h := HC5.out; first | exact h | (rw [← HL.out] at h; exact h)) HB5.out).mono ?_
    rintro e w6 ⟨rfl, hb6⟩
    have HB6 := Aside0.mk (below_step HB5.out hb6)
    clear hb6
    go_wp2
    go_ret
    exact ⟨rfl, HB6.out⟩
  · obtain ⟨T, hT⟩ : ∃ T, T = setT true l := ⟨_, rfl⟩
    have HS := Aside0.mk (fun (A : Option Addr) (c : Nat) (W : World) (hC : Kd.C kM W A l.length l) (hb : Below w.heap.size w W) => ResetMode_ A c l W hC hl hin (hLD.below hb))
    rw [show makeT 1 l = T by rw [hT]; rfl]
    rw [← hT] at HS
    rw [← hL] at HMO HS ⊢
    clear hr0 hl hin hLD hT hL
    go_enter Tryd.func6, Tryd.ntmps6
    go_wp2_with fail
    refine HMO.out.mono ?_
    rintro e w5 ⟨v5, rfl, hr5, hb5⟩
    obtain ⟨A5, c5, e5⟩ : ∃ A c, v5 = .slice A L c := by
      obtain ⟨A, c, e⟩ := Kd.R_slice hr5
      exact ⟨A, c, by rw [e, HL.out]⟩
    subst e5
    have HC5 := Aside0.mk (show Kd.C kM w5 A5 l.length l by
      have h := (Kd.R_reads' hr5).2.2
      first | exact h | (rw [← HL.out]; exact h))
    have HB5 := Aside0.mk hb5
    clear hr5 hb5
    go_wp2_with fail
    refine (HS.out A5 c5 w5 (by have h := HC5.out; first | exact h | (rw [← HL.out] at h; exact h)) HB5.out).mono ?_
    rintro e w6 ⟨rfl, hb6⟩
    have HB6 := Aside0.mk (below_step HB5.out hb6)
    clear hb6
    go_wp2
    go_ret
    exact ⟨rfl, HB6.out⟩

set_option maxHeartbeats 8000000 in
set_option maxRecDepth 100000 in
theorem make2 (A0 : Option Addr) (c0 : Nat) (l : List S31) (w : World) (hr0 : Kd.C k31 w A0 l.length l) (hl : l.length ≤ 100) (hin : InM l) (hLD : Laid w) :
    Calls Tryd.prog 6 #[.int .i64 2, .slice A0 l.length c0] w fun e w' => e = .returned (.string (makeT 2 l)) ∧ Below w.heap.size w w' := by
  have hu31 := Tryd.underlying31
  have HR0 := Aside0.mk hr0
  obtain ⟨T, hT⟩ : ∃ T, T = dsrT l := ⟨_, rfl⟩
  have HS := Aside0.mk (fun (A : Option Addr) (c : Nat) (W : World) (hC : Kd.C kR W A l.length l) (hb : Below w.heap.size w W) => dsr_ A c l W hC hl hin (hLD.below hb))
  rw [show makeT 2 l = T by rw [hT]; rfl]
  rw [← hT] at HS
  clear hr0 hin hLD hT
  go_enter Tryd.func6, Tryd.ntmps6
  go_wp2_with fail
  go_loopw [5, 23] (fun v5 v23 wr => ∃ (J : Int) (k : Nat), v23 = .int .i64 J ∧ Aside0 (J = (k : Int)) ∧ Aside0 (k ≤ l.length) ∧ Aside0 (Kd.R kR 65 wr w.heap.size (fun _ => True) v5 (l.take k)) ∧ Aside0 (Below w.heap.size w wr)) (fun _ v23 _ => l.length - (intOf v23).toNat)
  case atStart => exact ⟨0, 0, rfl, ⟨rfl⟩, ⟨Nat.zero_le _⟩, ⟨Kd.R_nil _ _ _ _ _⟩, ⟨Below.refl _ _⟩⟩
  case round =>
    obtain ⟨J, k, rfl, HJ, HK, HO, HB⟩ := hrel
    by_cases hlt : k < l.length
    · have hj := HJ.out
      have tlt : decide (J < (l.length : Int)) = true := decide_eq_true (by omega)
      have p0 : 0 ≤ J := by omega
      have q0 : J < (l.length : Int) := by omega
      have hwr : wrap64 (J + 1) = J + 1 := by unfold wrap64; omega
      obtain ⟨y, hy⟩ : ∃ y, y = l.take k := ⟨_, rfl⟩
      rw [← hy] at HO
      have hyl : y.length = k := by rw [hy, List.length_take]; omega
      have hys : l.take (k + 1) = y ++ [rd_T31 l J] := by rw [hy, hj]; exact take_at l k hlt
      obtain ⟨ad, e0, hx0, hx1⟩ := at_T31 HR0.out J p0 q0
      cases e0
      replace hx0 := (HB.out.cell (World.block_lt_of_cell? w _ hx0)).trans hx0
      replace hx1 := (HB.out.cell (World.block_lt_of_cell? w _ hx1)).trans hx1
      obtain ⟨s, hs⟩ : ∃ s, s = rd_T31 l J := ⟨_, rfl⟩
      rw [← hs] at hx0 hx1 hys
      obtain ⟨b, n⟩ := s
      have HYS := Aside0.mk hys
      have HYL := Aside0.mk hyl
      clear hj hy hys hyl hs
      replace p0 := eq_true p0
      replace q0 := eq_true q0
      go_upto_region 11 with (first | ((with_reducible refine gate_dst (N := 7) rfl ?_); refine box_event ?hg (N := 7) ?hd (cs := #[.bool false, .int .i64 0]) (t := 31) ?hr ?_; (case hd => rfl); (case hg => rfl); (case hr => first | (go_simp; done) | (go_simp; rfl)); intro g8 hg wb8 hbox hb; have GE8 := Aside0.mk hg; have BK := Aside0.mk hbox; have HBX := Aside0.mk hb; clear hbox hb hg; have hz0 : wb8.cell? ⟨g8, 0, none⟩ = some (.bool false) := (blk_cell BK.out 0).trans rfl; have hz1 : wb8.cell? ⟨g8, 1, none⟩ = some (.int .i64 0) := (blk_cell BK.out 1).trans rfl; have hf0 := blk_frozen BK.out 0; have hf1 := blk_frozen BK.out 1) | fail)
      have hgE : wr.heap.size ≤ g8 := by rw [GE8.out]; exact Nat.le_refl _
      obtain ⟨w8, hw8⟩ : ∃ W, W = (wb8.setCell ⟨g8, 0, none⟩ (.bool b)).setCell ⟨g8, 1, none⟩ (.int .i64 n) := ⟨_, rfl⟩
      have HB7 := Aside0.mk (show Below wr.heap.size wr w8 by rw [hw8]; exact below_set (below_set HBX.out hgE) hgE)
      have BK8 := Aside0.mk (show w8.heap[g8]? = some (.cells #[.bool b, .int .i64 n] 31 (0, 0)) by rw [hw8]; exact (blk_set (blk_set BK.out 0 _) 1 _).trans rfl)
      have hc80 : w8.cell? ⟨g8, 0, none⟩ = some (.bool b) := (blk_cell BK8.out 0).trans rfl
      have hc8 : w8.cell? ⟨g8, 1, none⟩ = some (.int .i64 n) := (blk_cell BK8.out 1).trans rfl
      rw [← hw8]
      have HO7 := Aside0.mk (Kd.R_below HO.out HB7.out)
      have HB8 := Aside0.mk (below_step HB.out HB7.out)
      clear hw8 HBX BK hz0 hz1 hf0 hf1 hx0 hx1 hgE GE8 HO HB HB7
      cases b with
      | true =>
        go_wp2_with (first | ((with_reducible refine gate_builtin (b := .append) (xs := #[.tmp 29, .tmp 33]) rfl ?_); at_builtin; refine Kd.R_append kR (w0 := w) w.heap.size rfl (.tmp 29) (.tmp 33) 45 65 .nilIface 16 rfl Tryd.underlying45 info65 rfl (by decide) (by omega) u5 y ⟨true, n⟩ [.iface 46 (.int .i64 n)] (fun _ => True) (fun _ => False) rfl rfl ?aP (fun _ hk => hk.elim) ?aF ?aO ?aB ?aS ?aL ?_; (case aP => exact rfl); (case aB => exact HB8.out); (case aF => exact (fun _ _ => trivial)); (case aO => exact HO7.out); (case aS => exact (below_size HB8.out)); (case aL => have := HYL.out; omega); intro v1 w1 ho hb hg hat; rw [← HYS.out] at ho; have HO1 := Aside0.mk ho; have HB1 := Aside0.mk hb; clear ho hb hg hat) | fail)
        go_roundw
        case rel => exact ⟨wrap64 (J + 1), k + 1, rfl, ⟨by rw [hwr, HJ.out]; rfl⟩, ⟨hlt⟩, HO1, HB1⟩
        case measure =>
          have := HJ.out
          rw [hwr]
          simp [intOf]
          omega
      | false =>
        go_wp2_with (first | ((with_reducible refine gate_builtin (b := .append) (xs := #[.tmp 35, .tmp 39]) rfl ?_); at_builtin; refine Kd.R_append kR (w0 := w) w.heap.size rfl (.tmp 35) (.tmp 39) 45 65 .nilIface 16 rfl Tryd.underlying45 info65 rfl (by decide) (by omega) u5 y ⟨false, n⟩ [.iface 47 (.int .i64 n)] (fun _ => True) (fun _ => False) rfl rfl ?aP (fun _ hk => hk.elim) ?aF ?aO ?aB ?aS ?aL ?_; (case aP => exact rfl); (case aB => exact HB8.out); (case aF => exact (fun _ _ => trivial)); (case aO => exact HO7.out); (case aS => exact (below_size HB8.out)); (case aL => have := HYL.out; omega); intro v1 w1 ho hb hg hat; rw [← HYS.out] at ho; have HO1 := Aside0.mk ho; have HB1 := Aside0.mk hb; clear ho hb hg hat) | fail)
        go_roundw
        case rel => exact ⟨wrap64 (J + 1), k + 1, rfl, ⟨by rw [hwr, HJ.out]; rfl⟩, ⟨hlt⟩, HO1, HB1⟩
        case measure =>
          have := HJ.out
          rw [hwr]
          simp [intOf]
          omega
    · have hj := HJ.out
      have tlt : decide (J < (l.length : Int)) = false := decide_eq_false (by omega)
      obtain rfl : k = l.length := by have := HK.out; omega
      clear hj
      rw [List.take_length] at HO
      obtain ⟨A5, c5, e5⟩ := Kd.R_slice HO.out
      subst e5
      have HC5 := Aside0.mk (Kd.R_reads' HO.out).2.2
      clear HO
      go_wp2_with fail
      refine (HS.out A5 c5 _ HC5.out HB.out).mono ?_
      rintro e w6 ⟨rfl, hb6⟩
      have HB6 := Aside0.mk (below_step HB.out hb6)
      clear hb6
      go_wp2
      go_ret
      exact ⟨rfl, HB6.out⟩
theorem make_ (which : Int) (hw : 0 ≤ which ∧ which ≤ 2) (A0 : Option Addr) (c0 : Nat) (l : List S31) (w : World) (hr0 : Kd.C k31 w A0 l.length l) (hl : l.length ≤ 100) (hin : InM l) (hLD : Laid w) :
    Calls Tryd.prog 6 #[.int .i64 which, .slice A0 l.length c0] w fun e w' => e = .returned (.string (makeT which l)) ∧ Below w.heap.size w w' := by
  rcases (show which = 0 ∨ which = 1 ∨ which = 2 by omega) with h | h | rfl
  · exact make01 which (.inl h) A0 c0 l w hr0 hl hin hLD
  · exact make01 which (.inr h) A0 c0 l w hr0 hl hin hLD
  · exact make2 A0 c0 l w hr0 hl hin hLD

end Go.Proofs.YtakjcihjkagnfaaDoor.Mo
