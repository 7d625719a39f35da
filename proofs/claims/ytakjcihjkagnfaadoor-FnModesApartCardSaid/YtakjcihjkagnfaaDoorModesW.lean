/- The slices of modes, by hand: impl.modesOf, setMode, DeviceStatusReport, the reference's conversion of modes. -/
import Derived.Test.YtakjcihjkagnfaaDoorPMx1
import Derived.Test.YtakjcihjkagnfaaDoorDigM
import Derived.WalkKit
import Derived.KernelRfl
import Derived.Lib.Hide
import Derived.Lib.ItoaLen
namespace Go.Proofs.YtakjcihjkagnfaaDoor.Mo
set_option linter.unusedVariables false
set_option linter.unusedSimpArgs false
open Go Go.RowKit Go.Proofs.YtakjcihjkagnfaaDoor.PM Go.Proofs.YtakjcihjkagnfaaDoor.Or Go.Proofs.YtakjcihjkagnfaaDoor.Dig Go.Proofs.YtakjcihjkagnfaaDoorW.PrintWords Go.Proofs.YtakjcihjkagnfaaDoorW.PrintLast Go.Proofs.YtakjcihjkagnfaaDoorW.PrintMore

/-- A mode, and a status, as the interface value that the program makes of it. -/
def encM (s : S31) : Value := .iface (if s.f0 = true then 70 else 71) (.int .i64 s.f1)
def encR (s : S31) : Value := .iface (if s.f0 = true then 46 else 47) (.int .i64 s.f1)
def kM : Kd S31 := Kd.scalar encM (fun _ => rfl)
def kR : Kd S31 := Kd.scalar encR (fun _ => rfl)
theorem info62 : (Tryd.prog.info? 62).map (fun i => (i.zero, i.size, i.bytes)) = some (some .nilIface, 1, 16) := by kernel_rfl
theorem info65 : (Tryd.prog.info? 65).map (fun i => (i.zero, i.size, i.bytes)) = some (some .nilIface, 1, 16) := by kernel_rfl
theorem mode_dec (n : Int) (w : World) : Calls Tryd.prog 91 #[.int .i64 n] w fun e w' => e = .returned (.int .i64 n) ∧ w = w' := by
  go_enter Tryd.func91, Tryd.ntmps91
  go_wp2
  go_ret
  exact ⟨rfl, rfl⟩
theorem mode_ansi (n : Int) (w : World) : Calls Tryd.prog 92 #[.int .i64 n] w fun e w' => e = .returned (.int .i64 n) ∧ w = w' := by
  go_enter Tryd.func92, Tryd.ntmps92
  go_wp2
  go_ret
  exact ⟨rfl, rfl⟩
theorem stat_dec (n : Int) (w : World) : Calls Tryd.prog 89 #[.int .i64 n] w fun e w' => e = .returned (.int .i64 n) ∧ w = w' := by
  go_enter Tryd.func89, Tryd.ntmps89
  go_wp2
  go_ret
  exact ⟨rfl, rfl⟩
theorem stat_ansi (n : Int) (w : World) : Calls Tryd.prog 90 #[.int .i64 n] w fun e w' => e = .returned (.int .i64 n) ∧ w = w' := by
  go_enter Tryd.func90, Tryd.ntmps90
  go_wp2
  go_ret
  exact ⟨rfl, rfl⟩
set_option maxRecDepth 100000 in
theorem modeOf_dec (n : Int) (w : World) : Calls Tryd.prog 55 #[.agg #[.bool true, .int .i64 n]] w fun e w' => e = .returned (.iface 70 (.int .i64 n)) ∧ Below w.heap.size w w' := by
  go_enter Tryd.func55, Tryd.ntmps55
  go_wp2
  go_ret
  exact ⟨rfl, (Below.refl _ _).alloc (Nat.le_refl _) _⟩
set_option maxRecDepth 100000 in
theorem modeOf_ansi (n : Int) (w : World) : Calls Tryd.prog 55 #[.agg #[.bool false, .int .i64 n]] w fun e w' => e = .returned (.iface 71 (.int .i64 n)) ∧ Below w.heap.size w w' := by
  go_enter Tryd.func55, Tryd.ntmps55
  go_wp2
  go_ret
  exact ⟨rfl, (Below.refl _ _).alloc (Nat.le_refl _) _⟩
theorem modeOf_ (b : Bool) (n : Int) (w : World) : Calls Tryd.prog 55 #[.agg #[.bool b, .int .i64 n]] w fun e w' => e = .returned (encM ⟨b, n⟩) ∧ Below w.heap.size w w' := by
  cases b with
  | true => exact modeOf_dec n w
  | false => exact modeOf_ansi n w
theorem take_at (l : List S31) (k : Nat) (hk : k < l.length) : l.take (k + 1) = l.take k ++ [rd_T31 l (k : Int)] := by
  show _ = _ ++ [l.getD (k : Int).toNat z31]
  rw [Int.toNat_natCast, List.getD_eq_getElem?_getD, List.take_add_one, List.getElem?_eq_getElem hk]
  rfl

set_option maxHeartbeats 8000000 in
set_option maxRecDepth 100000 in
theorem modesOf_ (A0 : Option Addr) (c0 : Nat) (l : List S31) (w : World) (hr0 : Kd.C k31 w A0 l.length l) (hl : l.length ≤ 100000) :
    Calls Tryd.prog 12 #[.slice A0 l.length c0] w fun e w' => ∃ v : Value, e = .returned v ∧ Kd.R kM 62 w' w.heap.size (fun _ => True) v l ∧ Below w.heap.size w w' := by
  have hu31 := Tryd.underlying31
  have HR0 := Aside0.mk hr0
  clear hr0
  go_enter Tryd.func12, Tryd.ntmps12
  go_wp2
  go_loopw [3, 8] (fun v3 v8 wr => ∃ (J : Int) (k : Nat), v8 = .int .i64 J ∧ Aside0 (J = (k : Int)) ∧ Aside0 (k ≤ l.length) ∧ Aside0 (Kd.R kM 62 wr w.heap.size (fun _ => True) v3 (l.take k)) ∧ Aside0 (Below w.heap.size w wr)) (fun _ v8 _ => l.length - (intOf v8).toNat)
  case atStart => exact ⟨0, 0, rfl, ⟨rfl⟩, ⟨Nat.zero_le _⟩, ⟨Kd.R_nil _ _ _ _ _⟩, ⟨Below.refl _ _⟩⟩
  case round =>
    obtain ⟨J, k, rfl, HJ, HK, HO, HB⟩ := hrel
    by_cases hlt : k < l.length
    · have hj := HJ.out
      have tlt : decide (J < (l.length : Int)) = true := decide_eq_true (by omega)
      have p0 : 0 ≤ J := by omega
      have q0 : J < (l.length : Int) := by omega
      have hwr : wrap64 (J + 1) = J + 1 := by unfold wrap64; omega
      obtain ⟨y, hy⟩ : ∃ y, y = l.take k := ⟨_, rfl⟩
      rw [← hy] at HO
      have hyl : y.length = k := by rw [hy, List.length_take]; omega
      have hys : l.take (k + 1) = y ++ [rd_T31 l J] := by rw [hy, hj]; exact take_at l k hlt
      obtain ⟨ad, e0, hx0, hx1⟩ := at_T31 HR0.out J p0 q0
      cases e0
      replace hx0 := (HB.out.cell (World.block_lt_of_cell? w _ hx0)).trans hx0
      replace hx1 := (HB.out.cell (World.block_lt_of_cell? w _ hx1)).trans hx1
      obtain ⟨s, hs⟩ : ∃ s, s = rd_T31 l J := ⟨_, rfl⟩
      rw [← hs] at hx0 hx1 hys
      obtain ⟨b, n⟩ := s
      have HYS := Aside0.mk hys
      have HYL := Aside0.mk hyl
      clear hj hy hys hyl hs
      replace p0 := eq_true p0
      replace q0 := eq_true q0
      go_wp2_with (first | ((with_reducible refine gate_dst (N := 5) rfl ?_); refine box_event ?hg (N := 5) ?hd (cs := #[.bool false, .int .i64 0]) (t := 31) ?hr ?_; (case hd => rfl); (case hg => rfl); (case hr => first | (go_simp; done) | (go_simp; rfl)); intro g hg wb hbox hb; have GE := Aside0.mk hg; have BK := Aside0.mk hbox; have HBX := Aside0.mk hb; clear hbox hb hg; have hz0 : wb.cell? ⟨g, 0, none⟩ = some (.bool false) := (blk_cell BK.out 0).trans rfl; have hz1 : wb.cell? ⟨g, 1, none⟩ = some (.int .i64 0) := (blk_cell BK.out 1).trans rfl; have hf0 := blk_frozen BK.out 0; have hf1 := blk_frozen BK.out 1) | fail)
      refine (modeOf_ b n _).mono ?_
      rintro e w7 ⟨he7, hb7⟩
      obtain ⟨T, hT⟩ : ∃ T, T = (if b = true then 70 else 71) := ⟨_, rfl⟩
      have HV7 := Aside0.mk (show Value.iface T (.int .i64 n) = encM ⟨b, n⟩ by rw [hT]; rfl)
      rw [← HV7.out] at he7
      subst he7
      have hgE : wr.heap.size ≤ g := by rw [GE.out]; exact Nat.le_refl _
      have HB7 := Aside0.mk (show Below wr.heap.size wr w7 from below_step (below_set (below_set HBX.out hgE) hgE) hb7)
      have HO7 := Aside0.mk (Kd.R_below HO.out HB7.out)
      have HB8 := Aside0.mk (below_step HB.out HB7.out)
      clear hb7 hgE HO HB HB7 HBX BK hz0 hz1 hf0 hf1 hT
      go_wp2_with (first | ((with_reducible refine gate_builtin (b := .append) (xs := #[.tmp 12, .tmp 15]) rfl ?_); at_builtin; refine Kd.R_append kM (w0 := w) w.heap.size rfl (.tmp 12) (.tmp 15) 43 62 .nilIface 16 rfl Tryd.underlying43 info62 rfl (by decide) (by omega) u3 y ⟨b, n⟩ [.iface T (.int .i64 n)] (fun _ => True) (fun _ => False) rfl rfl ?aP (fun _ hk => hk.elim) ?aF ?aO ?aB ?aS ?aL ?_; (case aP => (show [Value.iface T (.int .i64 n)] = [encM ⟨b, n⟩]; rw [HV7.out])); (case aB => exact HB8.out); (case aF => exact (fun _ _ => trivial)); (case aO => exact HO7.out); (case aS => exact (below_size HB8.out)); (case aL => have := HYL.out; omega); intro v1 w1 ho hb hg hat; rw [← HYS.out] at ho; have HO1 := Aside0.mk ho; have HB1 := Aside0.mk hb; clear ho hb hg hat) | fail)
      go_roundw
      case rel => exact ⟨wrap64 (J + 1), k + 1, rfl, ⟨by rw [hwr, HJ.out]; rfl⟩, ⟨hlt⟩, HO1, HB1⟩
      case measure =>
        have := HJ.out
        rw [hwr]
        simp [intOf]
        omega
    · have hj := HJ.out
      have tlt : decide (J < (l.length : Int)) = false := decide_eq_false (by omega)
      obtain rfl : k = l.length := by have := HK.out; omega
      clear hj
      rw [List.take_length] at HO
      go_wp2
      go_ret
      exact ⟨_, rfl, HO.out, HB.out⟩

end Go.Proofs.YtakjcihjkagnfaaDoor.Mo
