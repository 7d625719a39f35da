/- The walk of the law FnModesApart, by hand (printed by wip/gen_apart.py). -/
import Derived.Test.YtakjcihjkagnfaaDoorModesQ
import Derived.Test.YtakjcihjkagnfaaDoorReadW3
namespace Go.Proofs.YtakjcihjkagnfaaDoor.Mo
set_option linter.unusedVariables false
set_option linter.unusedSimpArgs false
open Go Go.RowKit Go.Proofs.YtakjcihjkagnfaaDoor.PM Go.Proofs.YtakjcihjkagnfaaDoor.Or Go.Proofs.YtakjcihjkagnfaaDoor.Dig Go.Proofs.YtakjcihjkagnfaaDoor.Mp Go.Proofs.YtakjcihjkagnfaaDoorW.PrintWords Go.Proofs.YtakjcihjkagnfaaDoorW.PrintLast Go.Proofs.YtakjcihjkagnfaaDoorW.PrintMore

theorem info31' : (Tryd.prog.info? 31).map (fun i => (i.zero, i.size, i.bytes)) = some (some (.agg #[(.bool false), (.int .i64 0)]), 2, 16) := by kernel_rfl
/-- The box of both kinds (its cells c0, c1), the rows v0, v1, apart from one another. -/
structure M2 (B : Nat) (w W : World) (g : Nat) (c0 c1 v0 v1 : Value) (l0 l1 : List S31) : Prop where
  bx : W.heap[g]? = some (.cells #[c0, c1] 29 (0, 0))
  r0 : Kd.R k31 31 W B (fun _ => True) v0 l0
  r1 : Kd.R k31 31 W B (fun _ => True) v1 l1
  s01 : ∀ k, v0.ownBlock = some k → some k ≠ v1.ownBlock
  b : Below B w W
  ge : B ≤ g
  lt : B ≤ W.heap.size
section
variable {B : Nat} {w W W' : World} {g : Nat} {c0 c1 v0 v1 : Value} {l0 l1 : List S31}
theorem M2.on (h : M2 B w W g c0 c1 v0 v1 l0 l1) (hb : Below W.heap.size W W') : M2 B w W' g c0 c1 v0 v1 l0 l1 :=
  ⟨(hb.block _ (blk_lt h.bx)).trans h.bx, Kd.R_below h.r0 hb, Kd.R_below h.r1 hb, h.s01, h.b.trans (hb.mono h.lt), h.ge, Nat.le_trans h.lt hb.size⟩
theorem gap2 {u v x : Value} {xs : List S31} (hr : Kd.R k31 31 W B (fun _ => True) x xs) (hs : ∀ k, v.ownBlock = some k → some k ≠ x.ownBlock) (hat : u.ownBlock = v.ownBlock ∨ ∃ b, u.ownBlock = some b ∧ W.heap.size ≤ b) : ∀ k, u.ownBlock = some k → some k ≠ x.ownBlock := by
  intro k hk e
  rcases hat with e1 | ⟨b, e1, hl⟩
  · rw [e1] at hk
    exact hs k hk e
  · rw [hk] at e1
    obtain rfl := Option.some.inj e1
    have := Kd.R_lt hr k e.symm
    omega
theorem M2.box (h : M2 B w W g c0 c1 v0 v1 l0 l1) {x : Value} {xs : List S31} (hr : Kd.R k31 31 W B (fun _ => True) x xs) : some g ≠ x.ownBlock := Kd.R_ne hr h.bx (by decide)
theorem M2.grow0 (h : M2 B w W g c0 c1 v0 v1 l0 l1) {u : Value} {l : List S31} (ho : Kd.R k31 31 W' B (fun _ => True) u l) (hb : Below B w W') (hg : W.grownBy W' v0.ownBlock) (hat : u.ownBlock = v0.ownBlock ∨ ∃ b, u.ownBlock = some b ∧ W.heap.size ≤ b) : M2 B w W' g c0 c1 u v1 l l1 :=
  ⟨blk_grown h.bx hg (h.box h.r0), ho, Kd.R_grown2 h.r1 rfl hg h.s01, gap2 h.r1 h.s01 hat, hb, h.ge, Nat.le_trans h.lt hg.size⟩
theorem M2.grow1 (h : M2 B w W g c0 c1 v0 v1 l0 l1) {u : Value} {l : List S31} (ho : Kd.R k31 31 W' B (fun _ => True) u l) (hb : Below B w W') (hg : W.grownBy W' v1.ownBlock) (hat : u.ownBlock = v1.ownBlock ∨ ∃ b, u.ownBlock = some b ∧ W.heap.size ≤ b) : M2 B w W' g c0 c1 v0 u l0 l :=
  ⟨blk_grown h.bx hg (h.box h.r1), Kd.R_grown2 h.r0 rfl hg (sw h.s01), ho, sw (gap2 h.r0 (sw h.s01) hat), hb, h.ge, Nat.le_trans h.lt hg.size⟩
theorem M2.store0 (h : M2 B w W g c0 c1 v0 v1 l0 l1) (u : Value) : M2 B w (W.setCell ⟨g, 0, none⟩ u) g u c1 v0 v1 l0 l1 :=
  ⟨(blk_set h.bx 0 u).trans rfl, Kd.R_set h.r0 h.bx (by decide) 0 u, Kd.R_set h.r1 h.bx (by decide) 0 u, h.s01, h.b.setCell h.ge u, h.ge, Nat.le_trans h.lt ((Below.refl 0 W).setCell (Nat.zero_le _) u).size⟩
theorem M2.store1 (h : M2 B w W g c0 c1 v0 v1 l0 l1) (u : Value) : M2 B w (W.setCell ⟨g, 1, none⟩ u) g c0 u v0 v1 l0 l1 :=
  ⟨(blk_set h.bx 1 u).trans rfl, Kd.R_set h.r0 h.bx (by decide) 1 u, Kd.R_set h.r1 h.bx (by decide) 1 u, h.s01, h.b.setCell h.ge u, h.ge, Nat.le_trans h.lt ((Below.refl 0 W).setCell (Nat.zero_le _) u).size⟩
theorem M2.k0 (h : M2 B w W g c0 c1 v0 v1 l0 l1) : W.cell? ⟨g, 0, none⟩ = some c0 := (blk_cell h.bx 0).trans rfl
theorem M2.k1 (h : M2 B w W g c0 c1 v0 v1 l0 l1) : W.cell? ⟨g, 1, none⟩ = some c1 := (blk_cell h.bx 1).trans rfl
theorem M2.f (h : M2 B w W g c0 c1 v0 v1 l0 l1) (j : Nat) : W.frozen? ⟨g, j, none⟩ = false := blk_frozen h.bx j
theorem M2.kg0 (h : M2 B w W g c0 c1 v0 v1 l0 l1) (hg : W.grownBy W' v0.ownBlock) (j : Nat) : W'.cell? ⟨g, j, none⟩ = (#[c0, c1] : Array Value)[j]? := blk_cell (blk_grown h.bx hg (h.box h.r0)) j
end
theorem lb_snoc (b : Bool) (l : List S31) (s : S31) : lb b (l ++ [s]) = lb b l ++ (if s.f0 = b then [s] else []) := by
  unfold lb
  rw [List.filter_append]
  congr 1
  by_cases h : s.f0 = b
  · rw [if_pos h]
    simp [h]
  · rw [if_neg h]
    simp [h]
theorem lb_len (b : Bool) (l : List S31) : (lb b l).length ≤ l.length := List.length_filter_le _ _
set_option maxRecDepth 100000 in
theorem ia0 (a b : Value) (W : World) : (Instr.index 29 (.agg #[a, b]) (.int .i64 0)).run Tryd.prog W = .ok a W := by kernel_rfl
set_option maxRecDepth 100000 in
theorem ia1 (a b : Value) (W : World) : (Instr.index 29 (.agg #[a, b]) (.int .i64 1)).run Tryd.prog W = .ok b W := by kernel_rfl
set_option maxRecDepth 100000 in
theorem is0 (W : World) : (Instr.index 9 (.string ⟨#[0, 63]⟩) (.int .i64 0)).run Tryd.prog W = .ok (.int .u8 0) W := by kernel_rfl
set_option maxRecDepth 100000 in
theorem is1 (W : World) : (Instr.index 9 (.string ⟨#[0, 63]⟩) (.int .i64 1)).run Tryd.prog W = .ok (.int .u8 63) W := by kernel_rfl
theorem take_36 (l : List S36) (i : Nat) (x : S36) (h : l[i]? = some x) : rd_T36 l (i : Int) = x := by
  show l.getD (i : Int).toNat z36 = x
  rw [Int.toNat_natCast, List.getD_eq_getElem?_getD, h]
  rfl
theorem take_31 (l : List S31) (i : Nat) (x : S31) (h : l[i]? = some x) : rd_T31 l (i : Int) = x := by
  show l.getD (i : Int).toNat z31 = x
  rw [Int.toNat_natCast, List.getD_eq_getElem?_getD, h]
  rfl
def wh (r : Bool) : Int := if r = true then 1 else 0

def a17T : Bool × List (List Nat × List Nat) := (true, [([], []), ([], []), ([1], [1]), ([2], [2]), ([], []), ([4], [4]), ([3, 5], [3, 5]), ([0, 0, 1, 2, 3, 4, 5, 6], [0]), ([7, 6, 6, 0, 1, 2, 3, 4, 5, 6], [6, 7])])
def a17B : List Nat := [0, 0, 2, 6, 0, 16, 62, 127, 255]
theorem a17_tab : rtab .any (opsOf Tryd.f4 17) = a17T := by kernel_rfl
theorem a17_bits : waitsOk a17T.2 a17B = true := by kernel_rfl
def a27T : Bool × List (List Nat × List Nat) := (true, [([], []), ([0], [0]), ([1], [1]), ([2], [2]), ([3, 2], [2, 3]), ([4, 2], [2, 4]), ([2, 5], [2, 5]), ([6, 2], [6]), ([7], [7]), ([8, 7], [7, 8]), ([7], [7]), ([10, 7], [7, 10]), ([9, 11, 7], [7, 9, 11]), ([7, 12], [7, 12]), ([13, 7], [13]), ([14], [14]), ([15, 14], [14, 15]), ([14], [14]), ([16, 17, 14], [14, 16, 17]), ([14, 18], [14, 18]), ([19, 14], [19]), ([20], [20]), ([21, 20], [20, 21]), ([22, 20], [20, 22]), ([20], [20]), ([24, 20], [20, 24]), ([23, 25, 20], [20, 23, 25]), ([20, 26], [20, 26])])
def a27B : List Nat := [0, 1, 3, 7, 15, 31, 63, 127, 255, 511, 255, 1279, 4095, 8191, 16383, 32767, 65535, 32767, 262143, 524287, 1048575, 2097151, 4194303, 8388607, 2097151, 18874367, 67108863, 134217727]
theorem a27_tab : rtab .any (opsOf Tryd.f4 27) = a27T := by kernel_rfl
theorem a27_bits : waitsOk a27T.2 a27B = true := by kernel_rfl
def a32T : Bool × List (List Nat × List Nat) := (true, [([], []), ([0], [0]), ([1], [1]), ([2], [2]), ([3, 2], [2, 3]), ([2, 4], [2, 4]), ([5, 2], [5]), ([6], [6]), ([7, 6], [6, 7]), ([6], [6]), ([6], [6]), ([9, 10, 6], [6, 9, 10]), ([11, 6], [6, 11]), ([12, 6], [6, 12]), ([8, 13, 6], [6, 8, 13]), ([6, 14], [6, 14])])
def a32B : List Nat := [0, 1, 3, 7, 15, 31, 63, 127, 255, 127, 127, 1663, 3711, 7807, 16383, 32767]
theorem a32_tab : rtab .any (opsOf Tryd.f4 32) = a32T := by kernel_rfl
theorem a32_bits : waitsOk a32T.2 a32B = true := by kernel_rfl

set_option maxHeartbeats 16000000 in
set_option maxRecDepth 100000 in
theorem apart (r : Bool) (A0 : Option Addr) (c0 : Nat) (l : List S31) (w : World) (hr0 : Kd.C k31 w A0 l.length l) (hc : l.length ≤ c0) (hLD : Laid w) :
    Calls Tryd.prog 4 #[.bool r, .slice A0 l.length c0] w fun e w' => e = .returned (.bool true) ∧ Below w.heap.size w w' := by
  have hu31 := Tryd.underlying31
  have HAW := Aside0.mk (fun (W : World) (hb : Below w.heap.size w W) => laws_makeAwake.calls true W (hLD.below hb) Aw.awake)
  obtain ⟨L, hL⟩ : ∃ L, L = l.length := ⟨_, rfl⟩
  have HLL := Aside0.mk hL
  have HR0 := Aside0.mk hr0
  have HLD := Lib.hid hLD
  rw [← hL]
  clear hr0 hLD hL hc
  by_cases hbig : 2147483647 < (L : Int)
  · have t0 : decide (2147483647 < (L : Int)) = true := decide_eq_true hbig
    clear hbig
    go_enter Tryd.func4, Tryd.ntmps4
    go_wp2
    go_ret
    exact ⟨rfl, Below.refl _ _⟩
  have t0 : decide (2147483647 < (L : Int)) = false := decide_eq_false hbig
  clear hbig
  by_cases h1 : (L : Int) < 1
  · have t1 : decide ((L : Int) < 1) = true := decide_eq_true h1
    cases r <;> go_enter Tryd.func4, Tryd.ntmps4
    all_goals
      go_wp2_with fail
      refine (HAW.out _ (Below.refl _ _)).mono ?_
      rintro e w1 ⟨rfl, hb⟩
      have HB := Aside0.mk hb
      clear hb
      go_wp2
      go_ret
      exact ⟨rfl, HB.out⟩
  have t1 : decide ((L : Int) < 1) = false := decide_eq_false h1
  by_cases h3 : 30 < (L : Int)
  · have t3 : decide (30 < (L : Int)) = true := decide_eq_true h3
    cases r <;> go_enter Tryd.func4, Tryd.ntmps4
    all_goals
      go_wp2_with fail
      refine (HAW.out _ (Below.refl _ _)).mono ?_
      rintro e w1 ⟨rfl, hb⟩
      have HB := Aside0.mk hb
      clear hb
      go_wp2
      go_ret
      exact ⟨rfl, HB.out⟩
  have t3 : decide (30 < (L : Int)) = false := decide_eq_false h3
  have HL2 := Aside0.mk (show 1 ≤ L ∧ L ≤ 30 by omega)
  clear h1 h3
  cases r with
  | true =>
    go_enter Tryd.func4, Tryd.ntmps4
    go_wp2_with (first | ((with_reducible refine gate_dst (N := 7) rfl ?_); refine box_event ?hg (N := 7) ?hd (cs := #[.slice none 0 0, .slice none 0 0]) (t := 29) ?hr ?_; (case hd => rfl); (case hg => rfl); (case hr => first | (go_simp; done) | (go_simp; rfl)); intro g hg wb hbox hb; have GE := Aside0.mk hg; have BK := Aside0.mk hbox; have HBX := Aside0.mk hb; clear hbox hb hg) | fail)
    have HM := Aside0.mk (show M2 w.heap.size w wb g (.slice none 0 0) (.slice none 0 0) (.slice none 0 0) (.slice none 0 0) (lb false (l.take 0)) (lb true (l.take 0)) from ⟨BK.out, Kd.R_nil _ _ _ _ _, Kd.R_nil _ _ _ _ _, fun k hk => by simp [Value.ownBlock] at hk, HBX.out, by rw [GE.out]; exact Nat.le_refl _, HBX.out.size⟩)
    clear GE BK HBX
    go_loopw [34] (fun v34 wr => ∃ (J : Int) (k : Nat) (v0 v1 : Value), v34 = .int .i64 J ∧ Aside0 (J = (k : Int)) ∧ Aside0 (k ≤ L) ∧ Aside0 (M2 w.heap.size w wr g v0 v1 v0 v1 (lb false (l.take k)) (lb true (l.take k))) ∧ Aside0 (InA (l.take k))) (fun v34 _ => L - (intOf v34).toNat)
    case atStart => exact ⟨0, 0, _, _, rfl, ⟨rfl⟩, ⟨Nat.zero_le _⟩, HM, ⟨fun s hs => by simp at hs⟩⟩
    case round =>
      clear HM
      obtain ⟨J, k, v0, v1, rfl, HJ, HK, HM, HIN⟩ := hrel
      by_cases hlt : k < L
      · have hj := HJ.out
        have tlt : decide (J < (L : Int)) = true := decide_eq_true (by omega)
        have p0 : 0 ≤ J := by omega
        have q0 : J < (L : Int) := by omega
        have hwr : wrap64 (J + 1) = J + 1 := by have := HL2.out; unfold wrap64; omega
        obtain ⟨ad, e0, hx0, hx1⟩ := at_T31 HR0.out J p0 (by have := HLL.out; omega)
        cases e0
        replace hx0 := (HM.out.b.cell (World.block_lt_of_cell? w _ hx0)).trans hx0
        replace hx1 := (HM.out.b.cell (World.block_lt_of_cell? w _ hx1)).trans hx1
        have hkl : k < l.length := by have := HLL.out; omega
        have htk := take_at l k hkl
        rw [← hj] at htk
        obtain ⟨s, hs⟩ : ∃ s, s = rd_T31 l J := ⟨_, rfl⟩
        rw [← hs] at hx0 hx1 htk
        obtain ⟨b, n⟩ := s
        obtain ⟨y0, hy0⟩ : ∃ y, y = lb false (l.take k) := ⟨_, rfl⟩
        obtain ⟨y1, hy1⟩ : ∃ y, y = lb true (l.take k) := ⟨_, rfl⟩
        rw [← hy0, ← hy1] at HM
        have HYL := Aside0.mk (show y0.length ≤ 100 ∧ y1.length ≤ 100 by
          have h1 := lb_len false (l.take k)
          have h2 := lb_len true (l.take k)
          rw [List.length_take] at h1 h2
          rw [hy0, hy1]
          have := HL2.out
          omega)
        have HY2 := Aside0.mk (show lb false (l.take (k + 1)) = y0 ++ (if b = false then [⟨b, n⟩] else []) ∧ lb true (l.take (k + 1)) = y1 ++ (if b = true then [⟨b, n⟩] else []) by
          rw [htk, lb_snoc, lb_snoc, hy0, hy1]
          exact ⟨rfl, rfl⟩)
        have HTK := Aside0.mk htk
        clear hj hs hkl htk hy0 hy1
        replace p0 := eq_true p0
        replace q0 := eq_true q0
        go_upto_region 12 with (first | ((with_reducible refine gate_dst (N := 9) rfl ?_); refine box_event ?hg (N := 9) ?hd (cs := #[.bool false, .int .i64 0]) (t := 31) ?hr ?_; (case hd => rfl); (case hg => rfl); (case hr => first | (go_simp; done) | (go_simp; rfl)); intro g9 hg wb8 hbox hb; have GE8 := Aside0.mk hg; have BK := Aside0.mk hbox; have HBX := Aside0.mk hb; clear hbox hb hg; have hz0 : wb8.cell? ⟨g9, 0, none⟩ = some (.bool false) := (blk_cell BK.out 0).trans rfl; have hz1 : wb8.cell? ⟨g9, 1, none⟩ = some (.int .i64 0) := (blk_cell BK.out 1).trans rfl; have hf0 := blk_frozen BK.out 0; have hf1 := blk_frozen BK.out 1) | fail)
        have hgE : wr.heap.size ≤ g9 := by rw [GE8.out]; exact Nat.le_refl _
        obtain ⟨w8, hw8⟩ : ∃ W, W = (wb8.setCell ⟨g9, 0, none⟩ (.bool b)).setCell ⟨g9, 1, none⟩ (.int .i64 n) := ⟨_, rfl⟩
        have HM8 := Aside0.mk (show M2 w.heap.size w w8 g v0 v1 v0 v1 y0 y1 from HM.out.on (by rw [hw8]; exact below_set (below_set HBX.out hgE) hgE))
        have BK8 := Aside0.mk (show w8.heap[g9]? = some (.cells #[.bool b, .int .i64 n] 31 (0, 0)) by rw [hw8]; exact (blk_set (blk_set BK.out 0 _) 1 _).trans rfl)
        have hc90 : w8.cell? ⟨g9, 0, none⟩ = some (.bool b) := (blk_cell BK8.out 0).trans rfl
        have hc91 : w8.cell? ⟨g9, 1, none⟩ = some (.int .i64 n) := (blk_cell BK8.out 1).trans rfl
        have HNE := Aside0.mk (show some g9 ≠ v0.ownBlock ∧ some g9 ≠ v1.ownBlock from ⟨fun e => by have := Kd.R_lt HM.out.r0 _ e.symm; have := GE8.out; omega, fun e => by have := Kd.R_lt HM.out.r1 _ e.symm; have := GE8.out; omega⟩)
        rw [← hw8]
        clear hw8 HBX BK hz0 hz1 hf0 hf1 HM hx0 hx1 hgE GE8
        by_cases hn0 : n < 0
        · have tn0 : decide (n < 0) = true := decide_eq_true hn0
          go_wp2_with fail
          refine (HAW.out _ HM8.out.b).mono ?_
          rintro e w1 ⟨rfl, hb⟩
          have HB := Aside0.mk (below_step HM8.out.b hb)
          clear hb
          go_wp2
          go_ret
          exact ⟨rfl, HB.out⟩
        have tn0 : decide (n < 0) = false := decide_eq_false hn0
        by_cases hn1 : 100000 < n
        · have tn1 : decide (100000 < n) = true := decide_eq_true hn1
          go_wp2_with fail
          refine (HAW.out _ HM8.out.b).mono ?_
          rintro e w1 ⟨rfl, hb⟩
          have HB := Aside0.mk (below_step HM8.out.b hb)
          clear hb
          go_wp2
          go_ret
          exact ⟨rfl, HB.out⟩
        have tn1 : decide (100000 < n) = false := decide_eq_false hn1
        have HIN2 := Aside0.mk (show InA (l.take (k + 1)) by
          rw [HTK.out]
          intro s hs
          rcases List.mem_append.1 hs with h | h
          · exact HIN.out s h
          · obtain rfl := List.mem_singleton.1 h
            show 0 ≤ n ∧ n ≤ 100000
            omega)
        clear hn0 hn1 HIN
        cases b with
        | true =>
          go_upto_region 17 with (fail)
          refine start_ (n := 9) (S := (fun w' => w'.cell? ⟨g, 1, none⟩ = some v1 ∧ w'.cell? ⟨g9, 0, none⟩ = some (.bool true) ∧ w'.cell? ⟨g9, 1, none⟩ = some (.int .i64 n))) (ds := [8]) #[false, false, false, false, false, false, false, false, false] (by kernel_rfl) rfl rfl ⟨HM8.out.k1, hc90, hc91⟩ (fun hHeld => ?_)
          refine with_tabW a17_tab a17_bits (fun HT_ HW_ => ?_)
          have M0 := Aside0.mk (HM8.out.on (below_drew (Below.refl _ _)))
          have C0 := Aside0.mk (((below_drew (Below.refl w8.heap.size w8)).block _ (blk_lt BK8.out)).trans BK8.out)
          clear HM8 hc90 hc91
          generalize w8.drew = wy at M0 C0 hHeld ⊢
          refine pure_ (i := 0) (N := some 49) (v := ?_) (a' := ?_) #[true, false, false, false, false, false, false, false, false] rfl rfl (any_of HT_.out (by kernel_rfl)) (fun _ _ _ h => h) (Or.inl ⟨by rfl, ?_⟩) ?_ ?_
          rotate_left
          · intro w'
            go_simp
            with_reducible rfl
          rotate_left
          · simp only [Act.put, List.setIfInBounds_toArray, List.set_cons_zero, List.set_cons_succ, i64_w, i32_w]
            rfl
          refine pure_ (i := 1) (N := some 50) (v := ?_) (a' := ?_) #[true, true, false, false, false, false, false, false, false] rfl rfl (any_of HT_.out (by kernel_rfl)) (fun _ _ _ h => h) (Or.inl ⟨by rfl, ?_⟩) ?_ ?_
          rotate_left
          · intro w'
            go_simp
            with_reducible rfl
          rotate_left
          · simp only [Act.put, List.setIfInBounds_toArray, List.set_cons_zero, List.set_cons_succ, i64_w, i32_w]
            rfl
          refine pure_ (i := 2) (N := some 51) (v := ?_) (a' := ?_) #[true, true, true, false, false, false, false, false, false] rfl rfl (any_of HT_.out (by kernel_rfl)) (fun _ _ _ h => h) (Or.inl ⟨by rfl, ?_⟩) ?_ ?_
          rotate_left
          · intro w'
            go_simp
            with_reducible rfl
          rotate_left
          · simp only [Act.put, List.setIfInBounds_toArray, List.set_cons_zero, List.set_cons_succ, i64_w, i32_w]
            rfl
          refine take_ (i := 3) (N := some 52) (v := ?_) (a' := ?_) #[true, true, true, true, false, false, false, false, false] rfl rfl (take_ofW HT_.out HW_.out (by kernel_rfl)) (fun _ _ _ h => h) (Or.inl ⟨by rfl, ?_⟩) hHeld ?_ ?_
          rotate_left
          · rintro w' ⟨s0, s1, s2⟩
            go_simp
            with_reducible rfl
          rotate_left
          · simp only [Act.put, List.setIfInBounds_toArray, List.set_cons_zero, List.set_cons_succ, i64_w, i32_w]
            rfl
          refine take_ (i := 4) (N := some 53) (v := ?_) (a' := ?_) #[true, true, true, true, true, false, false, false, false] rfl rfl (take_ofW HT_.out HW_.out (by kernel_rfl)) (fun _ _ _ h => h) (Or.inl ⟨by rfl, ?_⟩) hHeld ?_ ?_
          rotate_left
          · rintro w' ⟨s0, s1, s2⟩
            go_simp
            with_reducible rfl
          rotate_left
          · simp only [Act.put, List.setIfInBounds_toArray, List.set_cons_zero, List.set_cons_succ, i64_w, i32_w]
            rfl
          refine one_ (i := 5) (N := some 54) #[true, true, true, true, true, true, false, false, false] rfl rfl (one_of HT_.out (by kernel_rfl)) (by decide) (fun K hK => ?_)
          refine value_ (w1 := ?_) (v := ?_) (by rfl) rfl ?_ ?_
          rotate_left 2
          · go_simp
            constructor
            · rfl
            · rfl
          have ha_ := below_alloc (Below.refl wy.heap.size wy) (.cells #[.bool true, .int .i64 n] 31)
          refine hK.out _ _ ⟨(M0.out.on ha_).k1, (blk_cell ((ha_.block _ (blk_lt C0.out)).trans C0.out) 0).trans rfl, (blk_cell ((ha_.block _ (blk_lt C0.out)).trans C0.out) 1).trans rfl⟩ (fun hHeld => ?_)
          clear ha_
          clear hK K
          refine norm_ (a' := ?_) ?_ ?_
          rotate_left
          · show Act.put _ (some 54) _ = _
            simp only [Act.put, List.setIfInBounds_toArray, List.set_cons_zero, List.set_cons_succ, i64_w, i32_w]
            rfl
          refine one_ (i := 6) (N := some 55) #[true, true, true, true, true, true, true, false, false] rfl rfl (one_of HT_.out (by kernel_rfl)) (by decide) (fun K hK => ?_)
          refine Kd.R_append_step k31 (w0 := w) w.heap.size (by rfl) (.tmp 52) (.tmp 54) 22 31 (.agg #[(.bool false), (.int .i64 0)]) 16 rfl Tryd.underlying22 info31' rfl (by decide) (by omega) v1 y1 (⟨true, n⟩ : S31) [.bool true, .int .i64 n] (fun _ => True) (fun _ => False) rfl rfl ?aP (fun _ hk => hk.elim) (fun _ _ => trivial) M0.out.r1 M0.out.b M0.out.lt (by have := HYL.out; omega) ?_
          (case aP => exact k31_mkM _ _ _ (⟨true, n⟩ : S31))
          intro u1 wz ho hb hg hat
          obtain ⟨A1, c1, e1⟩ : ∃ A c, u1 = .slice A (y1.length + 1) c := by obtain ⟨A, c, e⟩ := Kd.R_slice ho; exact ⟨A, c, by rw [e, List.length_append]; rfl⟩
          subst e1
          have M1 := Aside0.mk (M0.out.grow1 ho hb hg hat)
          have C1 := Aside0.mk (blk_grown C0.out hg HNE.out.2)
          clear ho hb hg hat
          have jf := M1.out.f 1
          have jk := M1.out.k1
          refine hK.out _ _ ⟨M1.out.k1, (blk_cell C1.out 0).trans rfl, (blk_cell C1.out 1).trans rfl⟩ (fun hHeld => ?_)
          clear hK K
          refine norm_ (a' := ?_) ?_ ?_
          rotate_left
          · show Act.put _ (some 55) _ = _
            simp only [Act.put, List.setIfInBounds_toArray, List.set_cons_zero, List.set_cons_succ, i64_w, i32_w]
            rfl
          refine pure_ (i := 7) (N := some 56) (v := ?_) (a' := ?_) #[true, true, true, true, true, true, true, true, false] rfl rfl (any_of HT_.out (by kernel_rfl)) (fun _ _ _ h => h) (Or.inl ⟨by rfl, ?_⟩) ?_ ?_
          rotate_left
          · intro w'
            go_simp
            with_reducible rfl
          rotate_left
          · simp only [Act.put, List.setIfInBounds_toArray, List.set_cons_zero, List.set_cons_succ, i64_w, i32_w]
            rfl
          refine last_ (i := 8) (N := none) #[true, true, true, true, true, true, true, true, true] rfl rfl (one_of HT_.out (by kernel_rfl)) (by decide) (fun K hK => ?_)
          refine skip_ (w1 := ?_) (by rfl) rfl ?_ ?_
          rotate_left
          · go_simp
            with_reducible rfl
          refine hK.out _ _ ?_
          clear hK K
          refine done_ (done_of HT_.out (by kernel_rfl)) ?_
          clear hHeld jk jf
          have MF := Aside0.mk (M1.out.store1 (.slice A1 (y1.length + 1) c1))
          go_wp2_with fail
          go_roundw
          case rel => exact ⟨wrap64 (J + 1), k + 1, _, _, rfl, ⟨by rw [hwr, HJ.out]; rfl⟩, ⟨hlt⟩, ⟨by rw [HY2.out.1, HY2.out.2]; rw [if_neg (by decide), if_pos rfl, List.append_nil]; exact MF.out⟩, HIN2⟩
          case measure =>
            have := HJ.out
            rw [hwr]
            simp [intOf]
            omega
        | false =>
          go_upto_region 17 with (fail)
          refine start_ (n := 9) (S := (fun w' => w'.cell? ⟨g, 0, none⟩ = some v0 ∧ w'.cell? ⟨g9, 0, none⟩ = some (.bool false) ∧ w'.cell? ⟨g9, 1, none⟩ = some (.int .i64 n))) (ds := [8]) #[false, false, false, false, false, false, false, false, false] (by kernel_rfl) rfl rfl ⟨HM8.out.k0, hc90, hc91⟩ (fun hHeld => ?_)
          refine with_tabW a17_tab a17_bits (fun HT_ HW_ => ?_)
          have M0 := Aside0.mk (HM8.out.on (below_drew (Below.refl _ _)))
          have C0 := Aside0.mk (((below_drew (Below.refl w8.heap.size w8)).block _ (blk_lt BK8.out)).trans BK8.out)
          clear HM8 hc90 hc91
          generalize w8.drew = wy at M0 C0 hHeld ⊢
          refine pure_ (i := 0) (N := some 49) (v := ?_) (a' := ?_) #[true, false, false, false, false, false, false, false, false] rfl rfl (any_of HT_.out (by kernel_rfl)) (fun _ _ _ h => h) (Or.inl ⟨by rfl, ?_⟩) ?_ ?_
          rotate_left
          · intro w'
            go_simp
            with_reducible rfl
          rotate_left
          · simp only [Act.put, List.setIfInBounds_toArray, List.set_cons_zero, List.set_cons_succ, i64_w, i32_w]
            rfl
          refine pure_ (i := 1) (N := some 50) (v := ?_) (a' := ?_) #[true, true, false, false, false, false, false, false, false] rfl rfl (any_of HT_.out (by kernel_rfl)) (fun _ _ _ h => h) (Or.inl ⟨by rfl, ?_⟩) ?_ ?_
          rotate_left
          · intro w'
            go_simp
            with_reducible rfl
          rotate_left
          · simp only [Act.put, List.setIfInBounds_toArray, List.set_cons_zero, List.set_cons_succ, i64_w, i32_w]
            rfl
          refine pure_ (i := 2) (N := some 51) (v := ?_) (a' := ?_) #[true, true, true, false, false, false, false, false, false] rfl rfl (any_of HT_.out (by kernel_rfl)) (fun _ _ _ h => h) (Or.inl ⟨by rfl, ?_⟩) ?_ ?_
          rotate_left
          · intro w'
            go_simp
            with_reducible rfl
          rotate_left
          · simp only [Act.put, List.setIfInBounds_toArray, List.set_cons_zero, List.set_cons_succ, i64_w, i32_w]
            rfl
          refine take_ (i := 3) (N := some 52) (v := ?_) (a' := ?_) #[true, true, true, true, false, false, false, false, false] rfl rfl (take_ofW HT_.out HW_.out (by kernel_rfl)) (fun _ _ _ h => h) (Or.inl ⟨by rfl, ?_⟩) hHeld ?_ ?_
          rotate_left
          · rintro w' ⟨s0, s1, s2⟩
            go_simp
            with_reducible rfl
          rotate_left
          · simp only [Act.put, List.setIfInBounds_toArray, List.set_cons_zero, List.set_cons_succ, i64_w, i32_w]
            rfl
          refine take_ (i := 4) (N := some 53) (v := ?_) (a' := ?_) #[true, true, true, true, true, false, false, false, false] rfl rfl (take_ofW HT_.out HW_.out (by kernel_rfl)) (fun _ _ _ h => h) (Or.inl ⟨by rfl, ?_⟩) hHeld ?_ ?_
          rotate_left
          · rintro w' ⟨s0, s1, s2⟩
            go_simp
            with_reducible rfl
          rotate_left
          · simp only [Act.put, List.setIfInBounds_toArray, List.set_cons_zero, List.set_cons_succ, i64_w, i32_w]
            rfl
          refine one_ (i := 5) (N := some 54) #[true, true, true, true, true, true, false, false, false] rfl rfl (one_of HT_.out (by kernel_rfl)) (by decide) (fun K hK => ?_)
          refine value_ (w1 := ?_) (v := ?_) (by rfl) rfl ?_ ?_
          rotate_left 2
          · go_simp
            constructor
            · rfl
            · rfl
          have ha_ := below_alloc (Below.refl wy.heap.size wy) (.cells #[.bool false, .int .i64 n] 31)
          refine hK.out _ _ ⟨(M0.out.on ha_).k0, (blk_cell ((ha_.block _ (blk_lt C0.out)).trans C0.out) 0).trans rfl, (blk_cell ((ha_.block _ (blk_lt C0.out)).trans C0.out) 1).trans rfl⟩ (fun hHeld => ?_)
          clear ha_
          clear hK K
          refine norm_ (a' := ?_) ?_ ?_
          rotate_left
          · show Act.put _ (some 54) _ = _
            simp only [Act.put, List.setIfInBounds_toArray, List.set_cons_zero, List.set_cons_succ, i64_w, i32_w]
            rfl
          refine one_ (i := 6) (N := some 55) #[true, true, true, true, true, true, true, false, false] rfl rfl (one_of HT_.out (by kernel_rfl)) (by decide) (fun K hK => ?_)
          refine Kd.R_append_step k31 (w0 := w) w.heap.size (by rfl) (.tmp 52) (.tmp 54) 22 31 (.agg #[(.bool false), (.int .i64 0)]) 16 rfl Tryd.underlying22 info31' rfl (by decide) (by omega) v0 y0 (⟨false, n⟩ : S31) [.bool false, .int .i64 n] (fun _ => True) (fun _ => False) rfl rfl ?aP (fun _ hk => hk.elim) (fun _ _ => trivial) M0.out.r0 M0.out.b M0.out.lt (by have := HYL.out; omega) ?_
          (case aP => exact k31_mkM _ _ _ (⟨false, n⟩ : S31))
          intro u1 wz ho hb hg hat
          obtain ⟨A1, c1, e1⟩ : ∃ A c, u1 = .slice A (y0.length + 1) c := by obtain ⟨A, c, e⟩ := Kd.R_slice ho; exact ⟨A, c, by rw [e, List.length_append]; rfl⟩
          subst e1
          have M1 := Aside0.mk (M0.out.grow0 ho hb hg hat)
          have C1 := Aside0.mk (blk_grown C0.out hg HNE.out.1)
          clear ho hb hg hat
          have jf := M1.out.f 0
          have jk := M1.out.k0
          refine hK.out _ _ ⟨M1.out.k0, (blk_cell C1.out 0).trans rfl, (blk_cell C1.out 1).trans rfl⟩ (fun hHeld => ?_)
          clear hK K
          refine norm_ (a' := ?_) ?_ ?_
          rotate_left
          · show Act.put _ (some 55) _ = _
            simp only [Act.put, List.setIfInBounds_toArray, List.set_cons_zero, List.set_cons_succ, i64_w, i32_w]
            rfl
          refine pure_ (i := 7) (N := some 56) (v := ?_) (a' := ?_) #[true, true, true, true, true, true, true, true, false] rfl rfl (any_of HT_.out (by kernel_rfl)) (fun _ _ _ h => h) (Or.inl ⟨by rfl, ?_⟩) ?_ ?_
          rotate_left
          · intro w'
            go_simp
            with_reducible rfl
          rotate_left
          · simp only [Act.put, List.setIfInBounds_toArray, List.set_cons_zero, List.set_cons_succ, i64_w, i32_w]
            rfl
          refine last_ (i := 8) (N := none) #[true, true, true, true, true, true, true, true, true] rfl rfl (one_of HT_.out (by kernel_rfl)) (by decide) (fun K hK => ?_)
          refine skip_ (w1 := ?_) (by rfl) rfl ?_ ?_
          rotate_left
          · go_simp
            with_reducible rfl
          refine hK.out _ _ ?_
          clear hK K
          refine done_ (done_of HT_.out (by kernel_rfl)) ?_
          clear hHeld jk jf
          have MF := Aside0.mk (M1.out.store0 (.slice A1 (y0.length + 1) c1))
          go_wp2_with fail
          go_roundw
          case rel => exact ⟨wrap64 (J + 1), k + 1, _, _, rfl, ⟨by rw [hwr, HJ.out]; rfl⟩, ⟨hlt⟩, ⟨by rw [HY2.out.1, HY2.out.2]; rw [if_pos rfl, if_neg (by decide), List.append_nil]; exact MF.out⟩, HIN2⟩
          case measure =>
            have := HJ.out
            rw [hwr]
            simp [intOf]
            omega
      · have tlt : decide (J < (L : Int)) = false := decide_eq_false (by have := HJ.out; omega)
        have hk : k = L := by have := HK.out; omega
        rw [hk, HLL.out, List.take_length] at HM HIN
        clear hk hlt HJ HK
        obtain ⟨y0, hy0⟩ : ∃ y, y = lb false l := ⟨_, rfl⟩
        obtain ⟨y1, hy1⟩ : ∃ y, y = lb true l := ⟨_, rfl⟩
        have HYL := Aside0.mk (show y0.length ≤ 30 ∧ y1.length ≤ 30 by
          have h1 := lb_len false l
          have h2 := lb_len true l
          rw [hy0, hy1]
          have := HL2.out
          have := HLL.out
          omega)
        have HYI := Aside0.mk (show InA y0 ∧ InA y1 by rw [hy0, hy1]; exact ⟨HIN.out.lb _, HIN.out.lb _⟩)
        obtain ⟨t0, ht0⟩ : ∃ t, t = setT true y0 := ⟨_, rfl⟩
        obtain ⟨t1, ht1⟩ : ∃ t, t = setT true y1 := ⟨_, rfl⟩
        obtain ⟨o1, ho1⟩ : ∃ t, t = both0 true l := ⟨_, rfl⟩
        obtain ⟨o2, ho2⟩ : ∃ t, t = both1 true l := ⟨_, rfl⟩
        have HO1 := Aside0.mk (show o1 = if 0 < y0.length then (⟨#[]⟩ : ByteArray) ++ t0 else ⟨#[]⟩ by rw [ho1, ht0, hy0]; rfl)
        have HO2 := Aside0.mk (show o2 = if 0 < y1.length then o1 ++ t1 else o1 by rw [ho2, ho1, ht1, hy1]; rfl)
        have HOE := Aside0.mk (show setT true l = o2 by rw [ho2]; exact both_is true l)
        have HLN := Aside0.mk (show l.length ≤ 30 by have := HL2.out; have := HLL.out; omega)
        have HS0 := Aside0.mk (show t0.size ≤ 700 by rw [ht0, hy0]; exact set_size true false l HLN.out HIN.out)
        have HS1 := Aside0.mk (show t1.size ≤ 700 by rw [ht1, hy1]; exact set_size true true l HLN.out HIN.out)
        have HSO := Aside0.mk (show o1.size ≤ 700 by
          rw [HO1.out]
          split
          · rw [ByteArray.size_append]
            have := HS0.out
            have h : (⟨#[]⟩ : ByteArray).size = 0 := rfl
            omega
          · decide)
        have HRD0 := Aside0.mk (show 0 < y0.length → spec_ReadSequence.f (bytesOf t0) = some (1, 0, y0.map (fun s => (⟨s.f1, false, false⟩ : S36)), [], 108, [], false, true) from fun h => by rw [ht0, hy0]; rw [hy0] at h; exact read_kind true false l h HLN.out HIN.out)
        have HRD1 := Aside0.mk (show 0 < y1.length → spec_ReadSequence.f (bytesOf t1) = some (1, 63, y1.map (fun s => (⟨s.f1, false, false⟩ : S36)), [], 108, [], false, true) from fun h => by rw [ht1, hy1]; rw [hy1] at h; exact read_kind true true l h HLN.out HIN.out)
        have HMK0 := Aside0.mk (show makeT 1 y0 = t0 by rw [ht0]; rfl)
        have HMK1 := Aside0.mk (show makeT 1 y1 = t1 by rw [ht1]; rfl)
        have HMKL := Aside0.mk (show makeT 1 l = o2 by rw [← HOE.out]; rfl)
        have HINA := HIN
        rw [← hy0, ← hy1] at HM
        clear hy0 hy1 ht0 ht1 ho1 ho2 HIN
        have hk0 := HM.out.k0
        have hk1 := HM.out.k1
        have hu29 := Tryd.underlying29
        obtain ⟨A0_, q0_, ea0⟩ := Kd.R_slice HM.out.r0
        obtain ⟨A1_, q1_, ea1⟩ := Kd.R_slice HM.out.r1
        obtain ⟨n0, hn0⟩ : ∃ n, n = y0.length := ⟨_, rfl⟩
        obtain ⟨n1, hn1⟩ : ∃ n, n = y1.length := ⟨_, rfl⟩
        have HN0 := Aside0.mk hn0
        have HN1 := Aside0.mk hn1
        rw [← hn0] at ea0
        rw [← hn1] at ea1
        subst ea0 ea1
        rw [← hn0] at HO1 HRD0
        rw [← hn1] at HO2 HRD1
        clear hn0 hn1
        go_wp2_with fail
        have HM0 := HM
        clear HM hk0 hk1
        go_loopw [11, 59] (fun v11 v59 wr2 => ∃ (J2 : Int) (out : ByteArray), v59 = .int .i64 J2 ∧ v11 = .string out ∧ Aside0 ((J2 = 0 ∧ out = ⟨#[]⟩) ∨ (J2 = 1 ∧ out = o1) ∨ (J2 = 2 ∧ out = o2)) ∧ Aside0 (M2 w.heap.size w wr2 g (.slice A0_ n0 q0_) (.slice A1_ n1 q1_) (.slice A0_ n0 q0_) (.slice A1_ n1 q1_) y0 y1)) (fun _ v59 _ => 2 - (intOf v59).toNat)
        case atStart => exact ⟨0, _, rfl, rfl, ⟨Or.inl ⟨rfl, rfl⟩⟩, HM0⟩
        case round =>
          clear HM0
          obtain ⟨J2, out, rfl, rfl, HC, HM⟩ := hrel
          rcases HC.out with ⟨rfl, hout⟩ | ⟨rfl, hout⟩ | ⟨rfl, hout⟩
          · clear HC
            have so : out.size ≤ 700 := by
              rw [hout]
              decide
            have st : t0.size ≤ 700 := HS0.out
            have HOUT := Aside0.mk hout
            have hix := ia0
            have his := is0
            have kb_ := fun (s : ByteArray) (W : World) => print_bytes (P := Tryd.prog) 9 33 5 Tryd.underlying9 Tryd.underlying33 Tryd.underlying5 s W
            clear hout
            by_cases hp : 0 < n0
            · have tz : ((n0 : Int) == 0) = false := by simp; omega
              have HRD := Aside0.mk (HRD0.out hp)
              go_wp2_with fail
              refine (show Calls Tryd.prog 6 #[.int .i64 1, .slice A0_ n0 q0_] wr fun e w' => e = .returned (.string t0) ∧ Below wr.heap.size wr w' by
                have hC := (Kd.R_reads' (show Kd.R k31 31 wr w.heap.size (fun _ => True) (.slice A0_ y0.length q0_) y0 by rw [← HN0.out]; exact HM.out.r0)).2.2
                have h_ := make_ 1 (by decide) A0_ q0_ y0 wr hC (by have := HYL.out; omega) HYI.out.1.m (HLD.out.below HM.out.b)
                rw [← HN0.out, HMK0.out] at h_
                exact h_).mono ?_
              rintro e w5 ⟨rfl, hb5⟩
              have M5 := Aside0.mk (HM.out.on hb5)
              clear hb5 HM
              go_wp2_with fail
              with_reducible refine Ext.calls_len (m := (bytesOf t0).length) (k := t0.size) (bytesOf_length _) rfl ?_
              refine (spec_ReadSequence.calls _ _ (bytesOf t0) _ _ _ _ _ _ _ _ _ (Ext.C_bytes _ _ t0 (by omega)) (Ext.bytes_room _ _ _) HRD.out).mono ?_
              rintro e w6 ⟨vP, vI, v3, rfl, hP, hI, h3, hb6⟩
              have M6 := Aside0.mk (M5.out.on (below_step (Ext.below_bytes (Below.refl _ _)) hb6))
              obtain ⟨AP, cP, eP⟩ : ∃ A c, vP = .slice A n0 c := by obtain ⟨A, c, e⟩ := Kd.R_slice hP; exact ⟨A, c, by rw [e, List.length_map, HN0.out]⟩
              obtain ⟨AI, cI, eI⟩ : ∃ A c, vI = .slice A 0 c := Kd.R_slice hI
              obtain ⟨A3, c3, e3⟩ : ∃ A c, v3 = .slice A 0 c := Kd.R_slice h3
              subst eP eI e3
              have HP6 := Aside0.mk (show Kd.C k36 w6 AP (y0.map (fun s => (⟨s.f1, false, false⟩ : S36))).length (y0.map (fun s => (⟨s.f1, false, false⟩ : S36))) by have h := (Kd.R_reads' hP).2.2; first | exact h | (rw [List.length_map, ← HN0.out]; exact h))
              clear hP hI h3 hb6 M5
              go_upto_region 27 with (first | ((with_reducible refine gate_dst (N := 15) rfl ?_); refine box_event ?hg (N := 15) ?hd (cs := #[.int .i64 0, .int .u8 0, .slice none 0 0, .slice none 0 0, .int .u8 0, .slice none 0 0, .bool false]) (t := 35) ?hr ?_; (case hd => rfl); (case hg => rfl); (case hr => first | (go_simp; done) | (go_simp; rfl)); intro g15 hg wb hbox hb; have GE8 := Aside0.mk hg; have BK := Aside0.mk hbox; have HBX := Aside0.mk hb; clear hbox hb hg; have hz0 : wb.cell? ⟨g15, 0, none⟩ = some (.int .i64 0) := (blk_cell BK.out 0).trans rfl; have hf0 := blk_frozen BK.out 0; have hz1 : wb.cell? ⟨g15, 1, none⟩ = some (.int .u8 0) := (blk_cell BK.out 1).trans rfl; have hf1 := blk_frozen BK.out 1; have hz2 : wb.cell? ⟨g15, 2, none⟩ = some (.slice none 0 0) := (blk_cell BK.out 2).trans rfl; have hf2 := blk_frozen BK.out 2; have hz3 : wb.cell? ⟨g15, 3, none⟩ = some (.slice none 0 0) := (blk_cell BK.out 3).trans rfl; have hf3 := blk_frozen BK.out 3; have hz4 : wb.cell? ⟨g15, 4, none⟩ = some (.int .u8 0) := (blk_cell BK.out 4).trans rfl; have hf4 := blk_frozen BK.out 4; have hz5 : wb.cell? ⟨g15, 5, none⟩ = some (.slice none 0 0) := (blk_cell BK.out 5).trans rfl; have hf5 := blk_frozen BK.out 5; have hz6 : wb.cell? ⟨g15, 6, none⟩ = some (.bool false) := (blk_cell BK.out 6).trans rfl; have hf6 := blk_frozen BK.out 6) | fail)
              have hgE : w6.heap.size ≤ g15 := by rw [GE8.out]; exact Nat.le_refl _
              obtain ⟨w8, hw8⟩ : ∃ W, W = (((((((wb.setCell ⟨g15, 0, none⟩ (.int .i64 1)).setCell ⟨g15, 1, none⟩ (.int .u8 0)).setCell ⟨g15, 2, none⟩ (.slice AP n0 cP)).setCell ⟨g15, 3, none⟩ (.slice AI 0 cI)).setCell ⟨g15, 4, none⟩ (.int .u8 108)).setCell ⟨g15, 5, none⟩ (.slice A3 0 c3)).setCell ⟨g15, 6, none⟩ (.bool false)) := ⟨_, rfl⟩
              have HB68 := Aside0.mk (show Below w6.heap.size w6 w8 by rw [hw8]; exact (below_set (below_set (below_set (below_set (below_set (below_set (below_set HBX.out hgE) hgE) hgE) hgE) hgE) hgE) hgE))
              have B15 := Aside0.mk (show w8.heap[g15]? = some (.cells #[.int .i64 1, .int .u8 0, .slice AP n0 cP, .slice AI 0 cI, .int .u8 108, .slice A3 0 c3, .bool false] 35 (0, 0)) by rw [hw8]; exact (blk_set (blk_set (blk_set (blk_set (blk_set (blk_set (blk_set BK.out 0 _) 1 _) 2 _) 3 _) 4 _) 5 _) 6 _).trans rfl)
              have M8 := Aside0.mk (M6.out.on HB68.out)
              have HP8 := Aside0.mk (Kd.C_below HP6.out HB68.out)
              rw [← hw8]
              clear hw8 HBX BK HB68 HP6 M6 hgE GE8 hz0 hf0 hz1 hf1 hz2 hf2 hz3 hf3 hz4 hf4 hz5 hf5 hz6 hf6
              refine start_ (n := 28) (S := (fun w' => w'.cell? ⟨g15, 0, none⟩ = some (.int .i64 1) ∧ w'.cell? ⟨g15, 1, none⟩ = some (.int .u8 0) ∧ w'.cell? ⟨g15, 4, none⟩ = some (.int .u8 108) ∧ w'.cell? ⟨g15, 2, none⟩ = some (.slice AP n0 cP))) (ds := []) #[false, false, false, false, false, false, false, false, false, false, false, false, false, false, false, false, false, false, false, false, false, false, false, false, false, false, false, false] (by kernel_rfl) rfl rfl ⟨(blk_cell B15.out 0).trans rfl, (blk_cell B15.out 1).trans rfl, (blk_cell B15.out 4).trans rfl, (blk_cell B15.out 2).trans rfl⟩ (fun hHeld => ?_)
              refine with_tabW a27_tab a27_bits (fun HT_ HW_ => ?_)
              have M9 := Aside0.mk (M8.out.on (below_drew (Below.refl _ _)))
              have B15' := Aside0.mk (((below_drew (Below.refl w8.heap.size w8)).block _ (blk_lt B15.out)).trans B15.out)
              have HP9 := Aside0.mk (Kd.C_below HP8.out (below_drew (Below.refl _ _)))
              clear M8 B15 HP8
              generalize w8.drew = w9 at M9 B15' HP9 hHeld ⊢
              refine pure_ (i := 0) (N := some 78) (v := ?_) (a' := ?_) #[true, false, false, false, false, false, false, false, false, false, false, false, false, false, false, false, false, false, false, false, false, false, false, false, false, false, false, false] rfl rfl (any_of HT_.out (by kernel_rfl)) (fun _ _ _ h => h) (Or.inl ⟨by rfl, ?_⟩) ?_ ?_
              rotate_left
              · intro w'
                go_simp
                with_reducible rfl
              rotate_left
              · simp only [Act.put, List.setIfInBounds_toArray, List.set_cons_zero, List.set_cons_succ, i64_w, i32_w]
                rfl
              refine pure_ (i := 1) (N := some 79) (v := ?_) (a' := ?_) #[true, true, false, false, false, false, false, false, false, false, false, false, false, false, false, false, false, false, false, false, false, false, false, false, false, false, false, false] rfl rfl (any_of HT_.out (by kernel_rfl)) (fun _ _ _ h => h) (Or.inl ⟨by rfl, ?_⟩) ?_ ?_
              rotate_left
              · intro w'
                go_simp
                with_reducible rfl
              rotate_left
              · simp only [Act.put, List.setIfInBounds_toArray, List.set_cons_zero, List.set_cons_succ, i64_w, i32_w]
                rfl
              refine pure_ (i := 2) (N := some 80) (v := ?_) (a' := ?_) #[true, true, true, false, false, false, false, false, false, false, false, false, false, false, false, false, false, false, false, false, false, false, false, false, false, false, false, false] rfl rfl (any_of HT_.out (by kernel_rfl)) (fun _ _ _ h => h) (Or.inl ⟨by rfl, ?_⟩) ?_ ?_
              rotate_left
              · intro w'
                go_simp
                with_reducible rfl
              rotate_left
              · simp only [Act.put, List.setIfInBounds_toArray, List.set_cons_zero, List.set_cons_succ, i64_w, i32_w]
                rfl
              refine pure_ (i := 3) (N := some 81) (v := ?_) (a' := ?_) #[true, true, true, true, false, false, false, false, false, false, false, false, false, false, false, false, false, false, false, false, false, false, false, false, false, false, false, false] rfl rfl (any_of HT_.out (by kernel_rfl)) (fun _ _ _ h => h) (Or.inl ⟨by rfl, ?_⟩) ?_ ?_
              rotate_left
              · intro w'
                go_simp
                with_reducible rfl
              rotate_left
              · simp only [Act.put, List.setIfInBounds_toArray, List.set_cons_zero, List.set_cons_succ, i64_w, i32_w]
                rfl
              refine take_ (i := 4) (N := some 82) (v := ?_) (a' := ?_) #[true, true, true, true, true, false, false, false, false, false, false, false, false, false, false, false, false, false, false, false, false, false, false, false, false, false, false, false] rfl rfl (take_ofW HT_.out HW_.out (by kernel_rfl)) (fun _ _ _ h => h) (Or.inl ⟨by rfl, ?_⟩) hHeld ?_ ?_
              rotate_left
              · rintro w' ⟨s0, s1, s2, s3⟩
                go_simp
                with_reducible rfl
              rotate_left
              · simp only [Act.put, List.setIfInBounds_toArray, List.set_cons_zero, List.set_cons_succ, i64_w, i32_w]
                rfl
              refine pure_ (i := 5) (N := some 83) (v := ?_) (a' := ?_) #[true, true, true, true, true, true, false, false, false, false, false, false, false, false, false, false, false, false, false, false, false, false, false, false, false, false, false, false] rfl rfl (any_of HT_.out (by kernel_rfl)) (fun _ _ _ h => h) (Or.inl ⟨by rfl, ?_⟩) ?_ ?_
              rotate_left
              · intro w'
                go_simp
                with_reducible rfl
              rotate_left
              · simp only [Act.put, List.setIfInBounds_toArray, List.set_cons_zero, List.set_cons_succ, i64_w, i32_w]
                rfl
              refine pure_ (i := 6) (N := some 84) (v := ?_) (a' := ?_) #[true, true, true, true, true, true, true, false, false, false, false, false, false, false, false, false, false, false, false, false, false, false, false, false, false, false, false, false] rfl rfl (any_of HT_.out (by kernel_rfl)) (fun _ _ _ h => h) (Or.inl ⟨by rfl, ?_⟩) ?_ ?_
              rotate_left
              · intro w'
                go_simp
                with_reducible rfl
              rotate_left
              · simp only [Act.put, List.setIfInBounds_toArray, List.set_cons_zero, List.set_cons_succ, i64_w, i32_w]
                rfl
              refine pure_ (i := 7) (N := some 85) (v := ?_) (a' := ?_) #[true, true, true, true, true, true, true, true, false, false, false, false, false, false, false, false, false, false, false, false, false, false, false, false, false, false, false, false] rfl rfl (any_of HT_.out (by kernel_rfl)) (fun _ _ _ h => h) (Or.inl ⟨by rfl, ?_⟩) ?_ ?_
              rotate_left
              · intro w'
                go_simp
                with_reducible rfl
              rotate_left
              · simp only [Act.put, List.setIfInBounds_toArray, List.set_cons_zero, List.set_cons_succ, i64_w, i32_w]
                rfl
              refine pure_ (i := 8) (N := some 86) (v := ?_) (a' := ?_) #[true, true, true, true, true, true, true, true, true, false, false, false, false, false, false, false, false, false, false, false, false, false, false, false, false, false, false, false] rfl rfl (any_of HT_.out (by kernel_rfl)) (fun _ _ _ h => h) (Or.inl ⟨by rfl, ?_⟩) ?_ ?_
              rotate_left
              · intro w'
                go_simp
                with_reducible rfl
              rotate_left
              · simp only [Act.put, List.setIfInBounds_toArray, List.set_cons_zero, List.set_cons_succ, i64_w, i32_w]
                rfl
              refine pure_ (i := 10) (N := some 88) (v := ?_) (a' := ?_) #[true, true, true, true, true, true, true, true, true, false, true, false, false, false, false, false, false, false, false, false, false, false, false, false, false, false, false, false] rfl rfl (any_of HT_.out (by kernel_rfl)) (fun _ _ _ h => h) (Or.inl ⟨by rfl, ?_⟩) ?_ ?_
              rotate_left
              · intro w'
                go_simp
                with_reducible rfl
              rotate_left
              · simp only [Act.put, List.setIfInBounds_toArray, List.set_cons_zero, List.set_cons_succ, i64_w, i32_w]
                rfl
              refine pure_ (i := 11) (N := some 89) (v := ?_) (a' := ?_) #[true, true, true, true, true, true, true, true, true, false, true, true, false, false, false, false, false, false, false, false, false, false, false, false, false, false, false, false] rfl rfl (any_of HT_.out (by kernel_rfl)) (fun _ _ _ h => h) (Or.inl ⟨by rfl, ?_⟩) ?_ ?_
              rotate_left
              · intro w'
                go_simp
                with_reducible rfl
              rotate_left
              · simp only [Act.put, List.setIfInBounds_toArray, List.set_cons_zero, List.set_cons_succ, i64_w, i32_w]
                rfl
              refine take_ (i := 9) (N := some 87) (v := ?_) (a' := ?_) #[true, true, true, true, true, true, true, true, true, true, true, true, false, false, false, false, false, false, false, false, false, false, false, false, false, false, false, false] rfl rfl (take_ofW HT_.out HW_.out (by kernel_rfl)) (fun _ _ _ h => h) (Or.inl ⟨by rfl, ?_⟩) hHeld ?_ ?_
              rotate_left
              · rintro w' ⟨s0, s1, s2, s3⟩
                go_simp
                with_reducible rfl
              rotate_left
              · simp only [Act.put, List.setIfInBounds_toArray, List.set_cons_zero, List.set_cons_succ, i64_w, i32_w]
                rfl
              refine pure_ (i := 12) (N := some 90) (v := ?_) (a' := ?_) #[true, true, true, true, true, true, true, true, true, true, true, true, true, false, false, false, false, false, false, false, false, false, false, false, false, false, false, false] rfl rfl (any_of HT_.out (by kernel_rfl)) (fun _ _ _ h => h) (Or.inl ⟨by rfl, ?_⟩) ?_ ?_
              rotate_left
              · intro w'
                go_simp
                with_reducible rfl
              rotate_left
              · simp only [Act.put, List.setIfInBounds_toArray, List.set_cons_zero, List.set_cons_succ, i64_w, i32_w]
                rfl
              refine pure_ (i := 13) (N := some 91) (v := ?_) (a' := ?_) #[true, true, true, true, true, true, true, true, true, true, true, true, true, true, false, false, false, false, false, false, false, false, false, false, false, false, false, false] rfl rfl (any_of HT_.out (by kernel_rfl)) (fun _ _ _ h => h) (Or.inl ⟨by rfl, ?_⟩) ?_ ?_
              rotate_left
              · intro w'
                go_simp
                with_reducible rfl
              rotate_left
              · simp only [Act.put, List.setIfInBounds_toArray, List.set_cons_zero, List.set_cons_succ, i64_w, i32_w]
                rfl
              refine pure_ (i := 14) (N := some 92) (v := ?_) (a' := ?_) #[true, true, true, true, true, true, true, true, true, true, true, true, true, true, true, false, false, false, false, false, false, false, false, false, false, false, false, false] rfl rfl (any_of HT_.out (by kernel_rfl)) (fun _ _ _ h => h) (Or.inl ⟨by rfl, ?_⟩) ?_ ?_
              rotate_left
              · intro w'
                go_simp
                with_reducible rfl
              rotate_left
              · simp only [Act.put, List.setIfInBounds_toArray, List.set_cons_zero, List.set_cons_succ, i64_w, i32_w]
                rfl
              refine pure_ (i := 15) (N := some 93) (v := ?_) (a' := ?_) #[true, true, true, true, true, true, true, true, true, true, true, true, true, true, true, true, false, false, false, false, false, false, false, false, false, false, false, false] rfl rfl (any_of HT_.out (by kernel_rfl)) (fun _ _ _ h => h) (Or.inl ⟨by rfl, ?_⟩) ?_ ?_
              rotate_left
              · intro w'
                go_simp
                with_reducible rfl
              rotate_left
              · simp only [Act.put, List.setIfInBounds_toArray, List.set_cons_zero, List.set_cons_succ, i64_w, i32_w]
                rfl
              refine pure_ (i := 17) (N := some 95) (v := ?_) (a' := ?_) #[true, true, true, true, true, true, true, true, true, true, true, true, true, true, true, true, false, true, false, false, false, false, false, false, false, false, false, false] rfl rfl (any_of HT_.out (by kernel_rfl)) (fun _ _ _ h => h) (Or.inl ⟨by rfl, ?_⟩) ?_ ?_
              rotate_left
              · intro w'
                go_simp
                with_reducible rfl
              rotate_left
              · simp only [Act.put, List.setIfInBounds_toArray, List.set_cons_zero, List.set_cons_succ, i64_w, i32_w]
                rfl
              refine take_ (i := 16) (N := some 94) (v := ?_) (a' := ?_) #[true, true, true, true, true, true, true, true, true, true, true, true, true, true, true, true, true, true, false, false, false, false, false, false, false, false, false, false] rfl rfl (take_ofW HT_.out HW_.out (by kernel_rfl)) (fun _ _ _ h => h) (Or.inl ⟨by rfl, ?_⟩) hHeld ?_ ?_
              rotate_left
              · rintro w' ⟨s0, s1, s2, s3⟩
                go_simp
                with_reducible rfl
              rotate_left
              · simp only [Act.put, List.setIfInBounds_toArray, List.set_cons_zero, List.set_cons_succ, i64_w, i32_w]
                rfl
              refine pure_ (i := 18) (N := some 96) (v := ?_) (a' := ?_) #[true, true, true, true, true, true, true, true, true, true, true, true, true, true, true, true, true, true, true, false, false, false, false, false, false, false, false, false] rfl rfl (any_of HT_.out (by kernel_rfl)) (fun _ _ _ h => h) (Or.inl ⟨by rfl, ?_⟩) ?_ ?_
              rotate_left
              · intro w'
                go_simp
                with_reducible rfl
              rotate_left
              · simp only [Act.put, List.setIfInBounds_toArray, List.set_cons_zero, List.set_cons_succ, i64_w, i32_w]
                rfl
              refine pure_ (i := 19) (N := some 97) (v := ?_) (a' := ?_) #[true, true, true, true, true, true, true, true, true, true, true, true, true, true, true, true, true, true, true, true, false, false, false, false, false, false, false, false] rfl rfl (any_of HT_.out (by kernel_rfl)) (fun _ _ _ h => h) (Or.inl ⟨by rfl, ?_⟩) ?_ ?_
              rotate_left
              · intro w'
                go_simp
                with_reducible rfl
              rotate_left
              · simp only [Act.put, List.setIfInBounds_toArray, List.set_cons_zero, List.set_cons_succ, i64_w, i32_w]
                rfl
              refine pure_ (i := 20) (N := some 98) (v := ?_) (a' := ?_) #[true, true, true, true, true, true, true, true, true, true, true, true, true, true, true, true, true, true, true, true, true, false, false, false, false, false, false, false] rfl rfl (any_of HT_.out (by kernel_rfl)) (fun _ _ _ h => h) (Or.inl ⟨by rfl, ?_⟩) ?_ ?_
              rotate_left
              · intro w'
                go_simp
                with_reducible rfl
              rotate_left
              · simp only [Act.put, List.setIfInBounds_toArray, List.set_cons_zero, List.set_cons_succ, i64_w, i32_w]
                rfl
              refine pure_ (i := 21) (N := some 99) (v := ?_) (a' := ?_) #[true, true, true, true, true, true, true, true, true, true, true, true, true, true, true, true, true, true, true, true, true, true, false, false, false, false, false, false] rfl rfl (any_of HT_.out (by kernel_rfl)) (fun _ _ _ h => h) (Or.inl ⟨by rfl, ?_⟩) ?_ ?_
              rotate_left
              · intro w'
                go_simp
                with_reducible rfl
              rotate_left
              · simp only [Act.put, List.setIfInBounds_toArray, List.set_cons_zero, List.set_cons_succ, i64_w, i32_w]
                rfl
              refine pure_ (i := 24) (N := some 102) (v := ?_) (a' := ?_) #[true, true, true, true, true, true, true, true, true, true, true, true, true, true, true, true, true, true, true, true, true, true, false, false, true, false, false, false] rfl rfl (any_of HT_.out (by kernel_rfl)) (fun _ _ _ h => h) (Or.inl ⟨by rfl, ?_⟩) ?_ ?_
              rotate_left
              · intro w'
                go_simp
                with_reducible rfl
              rotate_left
              · simp only [Act.put, List.setIfInBounds_toArray, List.set_cons_zero, List.set_cons_succ, i64_w, i32_w]
                rfl
              refine pure_ (i := 25) (N := some 103) (v := ?_) (a' := ?_) #[true, true, true, true, true, true, true, true, true, true, true, true, true, true, true, true, true, true, true, true, true, true, false, false, true, true, false, false] rfl rfl (any_of HT_.out (by kernel_rfl)) (fun _ _ _ h => h) (Or.inl ⟨by rfl, ?_⟩) ?_ ?_
              rotate_left
              · intro w'
                go_simp
                with_reducible rfl
              rotate_left
              · simp only [Act.put, List.setIfInBounds_toArray, List.set_cons_zero, List.set_cons_succ, i64_w, i32_w]
                rfl
              refine take_ (i := 22) (N := some 100) (v := ?_) (a' := ?_) #[true, true, true, true, true, true, true, true, true, true, true, true, true, true, true, true, true, true, true, true, true, true, true, false, true, true, false, false] rfl rfl (take_ofW HT_.out HW_.out (by kernel_rfl)) (fun _ _ _ h => h) (Or.inl ⟨by rfl, ?_⟩) hHeld ?_ ?_
              rotate_left
              · rintro w' ⟨s0, s1, s2, s3⟩
                go_simp
                with_reducible rfl
              rotate_left
              · simp only [Act.put, List.setIfInBounds_toArray, List.set_cons_zero, List.set_cons_succ, i64_w, i32_w]
                rfl
              refine pure_ (i := 23) (N := some 101) (v := ?_) (a' := ?_) #[true, true, true, true, true, true, true, true, true, true, true, true, true, true, true, true, true, true, true, true, true, true, true, true, true, true, false, false] rfl rfl (any_of HT_.out (by kernel_rfl)) (fun _ _ _ h => h) (Or.inl ⟨by rfl, ?_⟩) ?_ ?_
              rotate_left
              · intro w'
                go_simp
                with_reducible rfl
              rotate_left
              · simp only [Act.put, List.setIfInBounds_toArray, List.set_cons_zero, List.set_cons_succ, i64_w, i32_w]
                rfl
              refine pure_ (i := 26) (N := some 104) (v := ?_) (a' := ?_) #[true, true, true, true, true, true, true, true, true, true, true, true, true, true, true, true, true, true, true, true, true, true, true, true, true, true, true, false] rfl rfl (any_of HT_.out (by kernel_rfl)) (fun _ _ _ h => h) (Or.inl ⟨by rfl, ?_⟩) ?_ ?_
              rotate_left
              · intro w'
                go_simp
                with_reducible rfl
              rotate_left
              · simp only [Act.put, List.setIfInBounds_toArray, List.set_cons_zero, List.set_cons_succ, i64_w, i32_w]
                rfl
              refine pure_ (i := 27) (N := some 105) (v := ?_) (a' := ?_) #[true, true, true, true, true, true, true, true, true, true, true, true, true, true, true, true, true, true, true, true, true, true, true, true, true, true, true, true] rfl rfl (any_of HT_.out (by kernel_rfl)) (fun _ _ _ h => h) (Or.inl ⟨by rfl, ?_⟩) ?_ ?_
              rotate_left
              · intro w'
                go_simp
                with_reducible rfl
              rotate_left
              · simp only [Act.put, List.setIfInBounds_toArray, List.set_cons_zero, List.set_cons_succ, i64_w, i32_w]
                rfl
              refine done_ (done_of HT_.out (by kernel_rfl)) ?_
              have hp2 := (blk_cell B15'.out 2).trans (show _ = some (Value.slice AP n0 cP) from rfl)
              clear hHeld
              go_wp2_with fail
              have HB99 := Aside0.mk (Below.refl w9.heap.size w9)
              clear hp2
              go_loopw [109] (fun v109 wc => ∃ (J3 : Int) (k3 : Nat), v109 = .int .i64 J3 ∧ Aside0 (J3 = (k3 : Int)) ∧ Aside0 (k3 ≤ n0) ∧ Aside0 (Below w9.heap.size w9 wc)) (fun v109 _ => n0 - (intOf v109).toNat)
              case atStart => exact ⟨0, 0, rfl, ⟨rfl⟩, ⟨Nat.zero_le _⟩, HB99⟩
              case round =>
                clear HB99
                obtain ⟨J3, k3, rfl, HJ3, HK3, HBW⟩ := hrel
                have hwr3 : wrap64 (J3 + 1) = J3 + 1 := by have := HJ3.out; have := HK3.out; have := HYL.out; have := HN0.out; unfold wrap64; omega
                by_cases hlt3 : k3 < n0
                · have hj3 := HJ3.out
                  have tlt3 : decide (J3 < (n0 : Int)) = true := decide_eq_true (by omega)
                  have p3 : 0 ≤ J3 := by omega
                  have q3 : J3 < (n0 : Int) := by omega
                  have hky : k3 < y0.length := by have := HN0.out; omega
                  obtain ⟨x, hx⟩ : ∃ x, x = (y0[k3]'hky).f1 := ⟨_, rfl⟩
                  have e36 : rd_T36 (y0.map (fun s => (⟨s.f1, false, false⟩ : S36))) (k3 : Int) = ⟨x, false, false⟩ := take_36 _ _ _ (by rw [List.getElem?_map, List.getElem?_eq_getElem hky, hx]; rfl)
                  have e31 : (rd_T31 y0 (k3 : Int)).f1 = x := by rw [take_31 _ _ _ (List.getElem?_eq_getElem hky), hx]
                  obtain ⟨ad36, ea36, h360, h361, h362⟩ := at_T36 HP9.out J3 p3 (by rw [List.length_map]; omega)
                  obtain ⟨ad31, ea31, _, hx31⟩ := at_T31 (Kd.R_reads' (show Kd.R k31 31 w9 w.heap.size (fun _ => True) (.slice A0_ y0.length q0_) y0 by rw [← HN0.out]; exact M9.out.r0)).2.2 J3 p3 (by omega)
                  cases ea36
                  cases ea31
                  obtain rfl : J3 = (k3 : Int) := hj3
                  rw [e36] at h360 h361 h362
                  rw [e31] at hx31
                  rw [Int.toNat_natCast] at h360 h361 h362 hx31
                  replace h360 := cell_on HBW.out h360
                  replace h361 := cell_on HBW.out h361
                  replace h362 := cell_on HBW.out h362
                  replace hx31 := cell_on HBW.out hx31
                  clear hx e36 e31 hky
                  replace p3 := eq_true p3
                  replace q3 := eq_true q3
                  have hu39 := Tryd.underlying39
                  go_upto_region 32 with (first | ((with_reducible refine gate_dst (N := 18) rfl ?_); refine box_event ?hg (N := 18) ?hd (cs := #[.int .i64 0, .bool false, .bool false]) (t := 39) ?hr ?_; (case hd => rfl); (case hg => rfl); (case hr => first | (go_simp; done) | (go_simp; rfl)); intro g18 hg wb hbox hb; have GE8 := Aside0.mk hg; have BK := Aside0.mk hbox; have HBX := Aside0.mk hb; clear hbox hb hg; have hz0 : wb.cell? ⟨g18, 0, none⟩ = some (.int .i64 0) := (blk_cell BK.out 0).trans rfl; have hf0 := blk_frozen BK.out 0; have hz1 : wb.cell? ⟨g18, 1, none⟩ = some (.bool false) := (blk_cell BK.out 1).trans rfl; have hf1 := blk_frozen BK.out 1; have hz2 : wb.cell? ⟨g18, 2, none⟩ = some (.bool false) := (blk_cell BK.out 2).trans rfl; have hf2 := blk_frozen BK.out 2) | fail)
                  have hgE : wr.heap.size ≤ g18 := by rw [GE8.out]; exact Nat.le_refl _
                  obtain ⟨wc8, hw8⟩ : ∃ W, W = ((wb.setCell ⟨g18, 0, none⟩ (.int .i64 x)).setCell ⟨g18, 1, none⟩ (.bool false)).setCell ⟨g18, 2, none⟩ (.bool false) := ⟨_, rfl⟩
                  have HB38 := Aside0.mk (show Below wr.heap.size wr wc8 by rw [hw8]; exact below_set (below_set (below_set HBX.out hgE) hgE) hgE)
                  have B18 := Aside0.mk (show wc8.heap[g18]? = some (.cells #[.int .i64 x, .bool false, .bool false] 39 (0, 0)) by rw [hw8]; exact (blk_set (blk_set (blk_set BK.out 0 _) 1 _) 2 _).trans rfl)
                  replace hx31 := cell_on HB38.out hx31
                  have HBW1 := Aside0.mk (below_step HBW.out HB38.out)
                  rw [← hw8]
                  clear hw8 HBX BK HB38 HBW hgE GE8 h360 h361 h362 hz0 hf0 hz1 hf1 hz2 hf2
                  refine start_ (n := 16) (S := (fun w' => w'.cell? ⟨g18, 0, none⟩ = some (.int .i64 x) ∧ w'.cell? ⟨g18, 1, none⟩ = some (.bool false) ∧ w'.cell? ⟨g18, 2, none⟩ = some (.bool false) ∧ w'.cell? ⟨(ad31.add (k3 * 2)).block, (ad31.add (k3 * 2)).off + 1, none⟩ = some (.int .i64 x))) (ds := []) #[false, false, false, false, false, false, false, false, false, false, false, false, false, false, false, false] (by kernel_rfl) rfl rfl ⟨(blk_cell B18.out 0).trans rfl, (blk_cell B18.out 1).trans rfl, (blk_cell B18.out 2).trans rfl, hx31⟩ (fun hHeld => ?_)
                  refine with_tabW a32_tab a32_bits (fun HT_ HW_ => ?_)
                  have HBW' := Aside0.mk (below_drew HBW1.out)
                  clear HBW1
                  generalize wc8.drew = wc9 at HBW' hHeld ⊢
                  refine pure_ (i := 0) (N := some 114) (v := ?_) (a' := ?_) #[true, false, false, false, false, false, false, false, false, false, false, false, false, false, false, false] rfl rfl (any_of HT_.out (by kernel_rfl)) (fun _ _ _ h => h) (Or.inl ⟨by rfl, ?_⟩) ?_ ?_
                  rotate_left
                  · intro w'
                    go_simp
                    with_reducible rfl
                  rotate_left
                  · simp only [Act.put, List.setIfInBounds_toArray, List.set_cons_zero, List.set_cons_succ, i64_w, i32_w]
                    rfl
                  refine take_ (i := 1) (N := some 115) (v := ?_) (a' := ?_) #[true, true, false, false, false, false, false, false, false, false, false, false, false, false, false, false] rfl rfl (take_ofW HT_.out HW_.out (by kernel_rfl)) (fun _ _ _ h => h) (Or.inl ⟨by rfl, ?_⟩) hHeld ?_ ?_
                  rotate_left
                  · rintro w' ⟨s0, s1, s2, s3⟩
                    go_simp
                    with_reducible rfl
                  rotate_left
                  · simp only [Act.put, List.setIfInBounds_toArray, List.set_cons_zero, List.set_cons_succ, i64_w, i32_w]
                    rfl
                  refine pure_ (i := 2) (N := some 116) (v := ?_) (a' := ?_) #[true, true, true, false, false, false, false, false, false, false, false, false, false, false, false, false] rfl rfl (any_of HT_.out (by kernel_rfl)) (fun _ _ _ h => h) (Or.inl ⟨by rfl, ?_⟩) ?_ ?_
                  rotate_left
                  · intro w'
                    go_simp
                    with_reducible rfl
                  rotate_left
                  · simp only [Act.put, List.setIfInBounds_toArray, List.set_cons_zero, List.set_cons_succ, i64_w, i32_w]
                    rfl
                  refine pure_ (i := 3) (N := some 117) (v := ?_) (a' := ?_) #[true, true, true, true, false, false, false, false, false, false, false, false, false, false, false, false] rfl rfl (any_of HT_.out (by kernel_rfl)) (fun _ _ _ h => h) (Or.inl ⟨by rfl, ?_⟩) ?_ ?_
                  rotate_left
                  · intro w'
                    go_simp
                    with_reducible rfl
                  rotate_left
                  · simp only [Act.put, List.setIfInBounds_toArray, List.set_cons_zero, List.set_cons_succ, i64_w, i32_w]
                    rfl
                  refine take_ (i := 4) (N := some 118) (v := ?_) (a' := ?_) #[true, true, true, true, true, false, false, false, false, false, false, false, false, false, false, false] rfl rfl (take_ofW HT_.out HW_.out (by kernel_rfl)) (fun _ _ _ h => h) (Or.inl ⟨by rfl, ?_⟩) hHeld ?_ ?_
                  rotate_left
                  · rintro w' ⟨s0, s1, s2, s3⟩
                    go_simp
                    with_reducible rfl
                  rotate_left
                  · simp only [Act.put, List.setIfInBounds_toArray, List.set_cons_zero, List.set_cons_succ, i64_w, i32_w]
                    rfl
                  refine pure_ (i := 5) (N := some 119) (v := ?_) (a' := ?_) #[true, true, true, true, true, true, false, false, false, false, false, false, false, false, false, false] rfl rfl (any_of HT_.out (by kernel_rfl)) (fun _ _ _ h => h) (Or.inl ⟨by rfl, ?_⟩) ?_ ?_
                  rotate_left
                  · intro w'
                    go_simp
                    with_reducible rfl
                  rotate_left
                  · simp only [Act.put, List.setIfInBounds_toArray, List.set_cons_zero, List.set_cons_succ, i64_w, i32_w]
                    rfl
                  refine pure_ (i := 6) (N := some 120) (v := ?_) (a' := ?_) #[true, true, true, true, true, true, true, false, false, false, false, false, false, false, false, false] rfl rfl (any_of HT_.out (by kernel_rfl)) (fun _ _ _ h => h) (Or.inl ⟨by rfl, ?_⟩) ?_ ?_
                  rotate_left
                  · intro w'
                    go_simp
                    with_reducible rfl
                  rotate_left
                  · simp only [Act.put, List.setIfInBounds_toArray, List.set_cons_zero, List.set_cons_succ, i64_w, i32_w]
                    rfl
                  refine pure_ (i := 7) (N := some 121) (v := ?_) (a' := ?_) #[true, true, true, true, true, true, true, true, false, false, false, false, false, false, false, false] rfl rfl (any_of HT_.out (by kernel_rfl)) (fun _ _ _ h => h) (Or.inl ⟨by rfl, ?_⟩) ?_ ?_
                  rotate_left
                  · intro w'
                    go_simp
                    with_reducible rfl
                  rotate_left
                  · simp only [Act.put, List.setIfInBounds_toArray, List.set_cons_zero, List.set_cons_succ, i64_w, i32_w]
                    rfl
                  refine pure_ (i := 9) (N := some 123) (v := ?_) (a' := ?_) #[true, true, true, true, true, true, true, true, false, true, false, false, false, false, false, false] rfl rfl (any_of HT_.out (by kernel_rfl)) (fun _ _ _ h => h) (Or.inl ⟨by rfl, ?_⟩) ?_ ?_
                  rotate_left
                  · intro w'
                    go_simp
                    with_reducible rfl
                  rotate_left
                  · simp only [Act.put, List.setIfInBounds_toArray, List.set_cons_zero, List.set_cons_succ, i64_w, i32_w]
                    rfl
                  refine pure_ (i := 10) (N := some 124) (v := ?_) (a' := ?_) #[true, true, true, true, true, true, true, true, false, true, true, false, false, false, false, false] rfl rfl (any_of HT_.out (by kernel_rfl)) (fun _ _ _ h => h) (Or.inl ⟨by rfl, ?_⟩) ?_ ?_
                  rotate_left
                  · intro w'
                    go_simp
                    with_reducible rfl
                  rotate_left
                  · simp only [Act.put, List.setIfInBounds_toArray, List.set_cons_zero, List.set_cons_succ, i64_w, i32_w]
                    rfl
                  refine pure_ (i := 11) (N := some 125) (v := ?_) (a' := ?_) #[true, true, true, true, true, true, true, true, false, true, true, true, false, false, false, false] rfl rfl (any_of HT_.out (by kernel_rfl)) (fun _ _ _ h => h) (Or.inl ⟨by rfl, ?_⟩) ?_ ?_
                  rotate_left
                  · intro w'
                    go_simp
                    with_reducible rfl
                  rotate_left
                  · simp only [Act.put, List.setIfInBounds_toArray, List.set_cons_zero, List.set_cons_succ, i64_w, i32_w]
                    rfl
                  refine pure_ (i := 12) (N := some 126) (v := ?_) (a' := ?_) #[true, true, true, true, true, true, true, true, false, true, true, true, true, false, false, false] rfl rfl (any_of HT_.out (by kernel_rfl)) (fun _ _ _ h => h) (Or.inl ⟨by rfl, ?_⟩) ?_ ?_
                  rotate_left
                  · intro w'
                    go_simp
                    with_reducible rfl
                  rotate_left
                  · simp only [Act.put, List.setIfInBounds_toArray, List.set_cons_zero, List.set_cons_succ, i64_w, i32_w]
                    rfl
                  refine take_ (i := 8) (N := some 122) (v := ?_) (a' := ?_) #[true, true, true, true, true, true, true, true, true, true, true, true, true, false, false, false] rfl rfl (take_ofW HT_.out HW_.out (by kernel_rfl)) (fun _ _ _ h => h) (Or.inl ⟨by rfl, ?_⟩) hHeld ?_ ?_
                  rotate_left
                  · rintro w' ⟨s0, s1, s2, s3⟩
                    go_simp
                    with_reducible rfl
                  rotate_left
                  · simp only [Act.put, List.setIfInBounds_toArray, List.set_cons_zero, List.set_cons_succ, i64_w, i32_w]
                    rfl
                  refine take_ (i := 13) (N := some 127) (v := ?_) (a' := ?_) #[true, true, true, true, true, true, true, true, true, true, true, true, true, true, false, false] rfl rfl (take_ofW HT_.out HW_.out (by kernel_rfl)) (fun _ _ _ h => h) (Or.inl ⟨by rfl, ?_⟩) hHeld ?_ ?_
                  rotate_left
                  · rintro w' ⟨s0, s1, s2, s3⟩
                    go_simp
                    with_reducible rfl
                  rotate_left
                  · simp only [Act.put, List.setIfInBounds_toArray, List.set_cons_zero, List.set_cons_succ, i64_w, i32_w]
                    rfl
                  refine pure_ (i := 14) (N := some 128) (v := ?_) (a' := ?_) #[true, true, true, true, true, true, true, true, true, true, true, true, true, true, true, false] rfl rfl (any_of HT_.out (by kernel_rfl)) (fun _ _ _ h => h) (Or.inl ⟨by rfl, ?_⟩) ?_ ?_
                  rotate_left
                  · intro w'
                    go_simp
                    with_reducible rfl
                  rotate_left
                  · simp only [Act.put, List.setIfInBounds_toArray, List.set_cons_zero, List.set_cons_succ, i64_w, i32_w]
                    rfl
                  refine pure_ (i := 15) (N := some 129) (v := ?_) (a' := ?_) #[true, true, true, true, true, true, true, true, true, true, true, true, true, true, true, true] rfl rfl (any_of HT_.out (by kernel_rfl)) (fun _ _ _ h => h) (Or.inl ⟨by rfl, ?_⟩) ?_ ?_
                  rotate_left
                  · intro w'
                    go_simp
                    with_reducible rfl
                  rotate_left
                  · simp only [Act.put, List.setIfInBounds_toArray, List.set_cons_zero, List.set_cons_succ, i64_w, i32_w]
                    rfl
                  refine done_ (done_of HT_.out (by kernel_rfl)) ?_
                  clear hHeld hx31
                  go_wp2_with fail
                  go_roundw
                  case rel => exact ⟨wrap64 ((k3 : Int) + 1), k3 + 1, rfl, ⟨by rw [hwr3]; rfl⟩, ⟨by omega⟩, HBW'⟩
                  case measure =>
                    rw [hwr3]
                    simp [intOf]
                    omega
                · have tlt3 : decide (J3 < (n0 : Int)) = false := decide_eq_false (by have := HJ3.out; omega)
                  have MZ := Aside0.mk (M9.out.on HBW.out)
                  go_wp2_with fail
                  go_roundw
                  case rel => exact ⟨1, _, by first | rfl | (simp [wrap64]; done), rfl, ⟨Or.inr (Or.inl ⟨rfl, by rw [HO1.out, if_pos hp, HOUT.out]⟩)⟩, MZ⟩
                  case measure => simp [intOf]
            · obtain rfl : n0 = 0 := by omega
              go_wp2_with fail
              go_roundw
              case rel => exact ⟨1, _, by first | rfl | (simp [wrap64]; done), rfl, ⟨Or.inr (Or.inl ⟨rfl, by rw [HO1.out, if_neg hp, HOUT.out]⟩)⟩, HM⟩
              case measure => simp [intOf]
          · clear HC
            have so : out.size ≤ 700 := by
              rw [hout]
              exact HSO.out
            have st : t1.size ≤ 700 := HS1.out
            have HOUT := Aside0.mk hout
            have hix := ia1
            have his := is1
            have kb_ := fun (s : ByteArray) (W : World) => print_bytes (P := Tryd.prog) 9 33 5 Tryd.underlying9 Tryd.underlying33 Tryd.underlying5 s W
            clear hout
            by_cases hp : 0 < n1
            · have tz : ((n1 : Int) == 0) = false := by simp; omega
              have HRD := Aside0.mk (HRD1.out hp)
              go_wp2_with fail
              refine (show Calls Tryd.prog 6 #[.int .i64 1, .slice A1_ n1 q1_] wr fun e w' => e = .returned (.string t1) ∧ Below wr.heap.size wr w' by
                have hC := (Kd.R_reads' (show Kd.R k31 31 wr w.heap.size (fun _ => True) (.slice A1_ y1.length q1_) y1 by rw [← HN1.out]; exact HM.out.r1)).2.2
                have h_ := make_ 1 (by decide) A1_ q1_ y1 wr hC (by have := HYL.out; omega) HYI.out.2.m (HLD.out.below HM.out.b)
                rw [← HN1.out, HMK1.out] at h_
                exact h_).mono ?_
              rintro e w5 ⟨rfl, hb5⟩
              have M5 := Aside0.mk (HM.out.on hb5)
              clear hb5 HM
              go_wp2_with fail
              with_reducible refine Ext.calls_len (m := (bytesOf t1).length) (k := t1.size) (bytesOf_length _) rfl ?_
              refine (spec_ReadSequence.calls _ _ (bytesOf t1) _ _ _ _ _ _ _ _ _ (Ext.C_bytes _ _ t1 (by omega)) (Ext.bytes_room _ _ _) HRD.out).mono ?_
              rintro e w6 ⟨vP, vI, v3, rfl, hP, hI, h3, hb6⟩
              have M6 := Aside0.mk (M5.out.on (below_step (Ext.below_bytes (Below.refl _ _)) hb6))
              obtain ⟨AP, cP, eP⟩ : ∃ A c, vP = .slice A n1 c := by obtain ⟨A, c, e⟩ := Kd.R_slice hP; exact ⟨A, c, by rw [e, List.length_map, HN1.out]⟩
              obtain ⟨AI, cI, eI⟩ : ∃ A c, vI = .slice A 0 c := Kd.R_slice hI
              obtain ⟨A3, c3, e3⟩ : ∃ A c, v3 = .slice A 0 c := Kd.R_slice h3
              subst eP eI e3
              have HP6 := Aside0.mk (show Kd.C k36 w6 AP (y1.map (fun s => (⟨s.f1, false, false⟩ : S36))).length (y1.map (fun s => (⟨s.f1, false, false⟩ : S36))) by have h := (Kd.R_reads' hP).2.2; first | exact h | (rw [List.length_map, ← HN1.out]; exact h))
              clear hP hI h3 hb6 M5
              go_upto_region 27 with (first | ((with_reducible refine gate_dst (N := 15) rfl ?_); refine box_event ?hg (N := 15) ?hd (cs := #[.int .i64 0, .int .u8 0, .slice none 0 0, .slice none 0 0, .int .u8 0, .slice none 0 0, .bool false]) (t := 35) ?hr ?_; (case hd => rfl); (case hg => rfl); (case hr => first | (go_simp; done) | (go_simp; rfl)); intro g15 hg wb hbox hb; have GE8 := Aside0.mk hg; have BK := Aside0.mk hbox; have HBX := Aside0.mk hb; clear hbox hb hg; have hz0 : wb.cell? ⟨g15, 0, none⟩ = some (.int .i64 0) := (blk_cell BK.out 0).trans rfl; have hf0 := blk_frozen BK.out 0; have hz1 : wb.cell? ⟨g15, 1, none⟩ = some (.int .u8 0) := (blk_cell BK.out 1).trans rfl; have hf1 := blk_frozen BK.out 1; have hz2 : wb.cell? ⟨g15, 2, none⟩ = some (.slice none 0 0) := (blk_cell BK.out 2).trans rfl; have hf2 := blk_frozen BK.out 2; have hz3 : wb.cell? ⟨g15, 3, none⟩ = some (.slice none 0 0) := (blk_cell BK.out 3).trans rfl; have hf3 := blk_frozen BK.out 3; have hz4 : wb.cell? ⟨g15, 4, none⟩ = some (.int .u8 0) := (blk_cell BK.out 4).trans rfl; have hf4 := blk_frozen BK.out 4; have hz5 : wb.cell? ⟨g15, 5, none⟩ = some (.slice none 0 0) := (blk_cell BK.out 5).trans rfl; have hf5 := blk_frozen BK.out 5; have hz6 : wb.cell? ⟨g15, 6, none⟩ = some (.bool false) := (blk_cell BK.out 6).trans rfl; have hf6 := blk_frozen BK.out 6) | fail)
              have hgE : w6.heap.size ≤ g15 := by rw [GE8.out]; exact Nat.le_refl _
              obtain ⟨w8, hw8⟩ : ∃ W, W = (((((((wb.setCell ⟨g15, 0, none⟩ (.int .i64 1)).setCell ⟨g15, 1, none⟩ (.int .u8 63)).setCell ⟨g15, 2, none⟩ (.slice AP n1 cP)).setCell ⟨g15, 3, none⟩ (.slice AI 0 cI)).setCell ⟨g15, 4, none⟩ (.int .u8 108)).setCell ⟨g15, 5, none⟩ (.slice A3 0 c3)).setCell ⟨g15, 6, none⟩ (.bool false)) := ⟨_, rfl⟩
              have HB68 := Aside0.mk (show Below w6.heap.size w6 w8 by rw [hw8]; exact (below_set (below_set (below_set (below_set (below_set (below_set (below_set HBX.out hgE) hgE) hgE) hgE) hgE) hgE) hgE))
              have B15 := Aside0.mk (show w8.heap[g15]? = some (.cells #[.int .i64 1, .int .u8 63, .slice AP n1 cP, .slice AI 0 cI, .int .u8 108, .slice A3 0 c3, .bool false] 35 (0, 0)) by rw [hw8]; exact (blk_set (blk_set (blk_set (blk_set (blk_set (blk_set (blk_set BK.out 0 _) 1 _) 2 _) 3 _) 4 _) 5 _) 6 _).trans rfl)
              have M8 := Aside0.mk (M6.out.on HB68.out)
              have HP8 := Aside0.mk (Kd.C_below HP6.out HB68.out)
              rw [← hw8]
              clear hw8 HBX BK HB68 HP6 M6 hgE GE8 hz0 hf0 hz1 hf1 hz2 hf2 hz3 hf3 hz4 hf4 hz5 hf5 hz6 hf6
              refine start_ (n := 28) (S := (fun w' => w'.cell? ⟨g15, 0, none⟩ = some (.int .i64 1) ∧ w'.cell? ⟨g15, 1, none⟩ = some (.int .u8 63) ∧ w'.cell? ⟨g15, 4, none⟩ = some (.int .u8 108) ∧ w'.cell? ⟨g15, 2, none⟩ = some (.slice AP n1 cP))) (ds := []) #[false, false, false, false, false, false, false, false, false, false, false, false, false, false, false, false, false, false, false, false, false, false, false, false, false, false, false, false] (by kernel_rfl) rfl rfl ⟨(blk_cell B15.out 0).trans rfl, (blk_cell B15.out 1).trans rfl, (blk_cell B15.out 4).trans rfl, (blk_cell B15.out 2).trans rfl⟩ (fun hHeld => ?_)
              refine with_tabW a27_tab a27_bits (fun HT_ HW_ => ?_)
              have M9 := Aside0.mk (M8.out.on (below_drew (Below.refl _ _)))
              have B15' := Aside0.mk (((below_drew (Below.refl w8.heap.size w8)).block _ (blk_lt B15.out)).trans B15.out)
              have HP9 := Aside0.mk (Kd.C_below HP8.out (below_drew (Below.refl _ _)))
              clear M8 B15 HP8
              generalize w8.drew = w9 at M9 B15' HP9 hHeld ⊢
              refine pure_ (i := 0) (N := some 78) (v := ?_) (a' := ?_) #[true, false, false, false, false, false, false, false, false, false, false, false, false, false, false, false, false, false, false, false, false, false, false, false, false, false, false, false] rfl rfl (any_of HT_.out (by kernel_rfl)) (fun _ _ _ h => h) (Or.inl ⟨by rfl, ?_⟩) ?_ ?_
              rotate_left
              · intro w'
                go_simp
                with_reducible rfl
              rotate_left
              · simp only [Act.put, List.setIfInBounds_toArray, List.set_cons_zero, List.set_cons_succ, i64_w, i32_w]
                rfl
              refine pure_ (i := 1) (N := some 79) (v := ?_) (a' := ?_) #[true, true, false, false, false, false, false, false, false, false, false, false, false, false, false, false, false, false, false, false, false, false, false, false, false, false, false, false] rfl rfl (any_of HT_.out (by kernel_rfl)) (fun _ _ _ h => h) (Or.inl ⟨by rfl, ?_⟩) ?_ ?_
              rotate_left
              · intro w'
                go_simp
                with_reducible rfl
              rotate_left
              · simp only [Act.put, List.setIfInBounds_toArray, List.set_cons_zero, List.set_cons_succ, i64_w, i32_w]
                rfl
              refine pure_ (i := 2) (N := some 80) (v := ?_) (a' := ?_) #[true, true, true, false, false, false, false, false, false, false, false, false, false, false, false, false, false, false, false, false, false, false, false, false, false, false, false, false] rfl rfl (any_of HT_.out (by kernel_rfl)) (fun _ _ _ h => h) (Or.inl ⟨by rfl, ?_⟩) ?_ ?_
              rotate_left
              · intro w'
                go_simp
                with_reducible rfl
              rotate_left
              · simp only [Act.put, List.setIfInBounds_toArray, List.set_cons_zero, List.set_cons_succ, i64_w, i32_w]
                rfl
              refine pure_ (i := 3) (N := some 81) (v := ?_) (a' := ?_) #[true, true, true, true, false, false, false, false, false, false, false, false, false, false, false, false, false, false, false, false, false, false, false, false, false, false, false, false] rfl rfl (any_of HT_.out (by kernel_rfl)) (fun _ _ _ h => h) (Or.inl ⟨by rfl, ?_⟩) ?_ ?_
              rotate_left
              · intro w'
                go_simp
                with_reducible rfl
              rotate_left
              · simp only [Act.put, List.setIfInBounds_toArray, List.set_cons_zero, List.set_cons_succ, i64_w, i32_w]
                rfl
              refine take_ (i := 4) (N := some 82) (v := ?_) (a' := ?_) #[true, true, true, true, true, false, false, false, false, false, false, false, false, false, false, false, false, false, false, false, false, false, false, false, false, false, false, false] rfl rfl (take_ofW HT_.out HW_.out (by kernel_rfl)) (fun _ _ _ h => h) (Or.inl ⟨by rfl, ?_⟩) hHeld ?_ ?_
              rotate_left
              · rintro w' ⟨s0, s1, s2, s3⟩
                go_simp
                with_reducible rfl
              rotate_left
              · simp only [Act.put, List.setIfInBounds_toArray, List.set_cons_zero, List.set_cons_succ, i64_w, i32_w]
                rfl
              refine pure_ (i := 5) (N := some 83) (v := ?_) (a' := ?_) #[true, true, true, true, true, true, false, false, false, false, false, false, false, false, false, false, false, false, false, false, false, false, false, false, false, false, false, false] rfl rfl (any_of HT_.out (by kernel_rfl)) (fun _ _ _ h => h) (Or.inl ⟨by rfl, ?_⟩) ?_ ?_
              rotate_left
              · intro w'
                go_simp
                with_reducible rfl
              rotate_left
              · simp only [Act.put, List.setIfInBounds_toArray, List.set_cons_zero, List.set_cons_succ, i64_w, i32_w]
                rfl
              refine pure_ (i := 6) (N := some 84) (v := ?_) (a' := ?_) #[true, true, true, true, true, true, true, false, false, false, false, false, false, false, false, false, false, false, false, false, false, false, false, false, false, false, false, false] rfl rfl (any_of HT_.out (by kernel_rfl)) (fun _ _ _ h => h) (Or.inl ⟨by rfl, ?_⟩) ?_ ?_
              rotate_left
              · intro w'
                go_simp
                with_reducible rfl
              rotate_left
              · simp only [Act.put, List.setIfInBounds_toArray, List.set_cons_zero, List.set_cons_succ, i64_w, i32_w]
                rfl
              refine pure_ (i := 7) (N := some 85) (v := ?_) (a' := ?_) #[true, true, true, true, true, true, true, true, false, false, false, false, false, false, false, false, false, false, false, false, false, false, false, false, false, false, false, false] rfl rfl (any_of HT_.out (by kernel_rfl)) (fun _ _ _ h => h) (Or.inl ⟨by rfl, ?_⟩) ?_ ?_
              rotate_left
              · intro w'
                go_simp
                with_reducible rfl
              rotate_left
              · simp only [Act.put, List.setIfInBounds_toArray, List.set_cons_zero, List.set_cons_succ, i64_w, i32_w]
                rfl
              refine pure_ (i := 8) (N := some 86) (v := ?_) (a' := ?_) #[true, true, true, true, true, true, true, true, true, false, false, false, false, false, false, false, false, false, false, false, false, false, false, false, false, false, false, false] rfl rfl (any_of HT_.out (by kernel_rfl)) (fun _ _ _ h => h) (Or.inl ⟨by rfl, ?_⟩) ?_ ?_
              rotate_left
              · intro w'
                go_simp
                with_reducible rfl
              rotate_left
              · simp only [Act.put, List.setIfInBounds_toArray, List.set_cons_zero, List.set_cons_succ, i64_w, i32_w]
                rfl
              refine pure_ (i := 10) (N := some 88) (v := ?_) (a' := ?_) #[true, true, true, true, true, true, true, true, true, false, true, false, false, false, false, false, false, false, false, false, false, false, false, false, false, false, false, false] rfl rfl (any_of HT_.out (by kernel_rfl)) (fun _ _ _ h => h) (Or.inl ⟨by rfl, ?_⟩) ?_ ?_
              rotate_left
              · intro w'
                go_simp
                with_reducible rfl
              rotate_left
              · simp only [Act.put, List.setIfInBounds_toArray, List.set_cons_zero, List.set_cons_succ, i64_w, i32_w]
                rfl
              refine pure_ (i := 11) (N := some 89) (v := ?_) (a' := ?_) #[true, true, true, true, true, true, true, true, true, false, true, true, false, false, false, false, false, false, false, false, false, false, false, false, false, false, false, false] rfl rfl (any_of HT_.out (by kernel_rfl)) (fun _ _ _ h => h) (Or.inl ⟨by rfl, ?_⟩) ?_ ?_
              rotate_left
              · intro w'
                go_simp
                with_reducible rfl
              rotate_left
              · simp only [Act.put, List.setIfInBounds_toArray, List.set_cons_zero, List.set_cons_succ, i64_w, i32_w]
                rfl
              refine take_ (i := 9) (N := some 87) (v := ?_) (a' := ?_) #[true, true, true, true, true, true, true, true, true, true, true, true, false, false, false, false, false, false, false, false, false, false, false, false, false, false, false, false] rfl rfl (take_ofW HT_.out HW_.out (by kernel_rfl)) (fun _ _ _ h => h) (Or.inl ⟨by rfl, ?_⟩) hHeld ?_ ?_
              rotate_left
              · rintro w' ⟨s0, s1, s2, s3⟩
                go_simp
                with_reducible rfl
              rotate_left
              · simp only [Act.put, List.setIfInBounds_toArray, List.set_cons_zero, List.set_cons_succ, i64_w, i32_w]
                rfl
              refine pure_ (i := 12) (N := some 90) (v := ?_) (a' := ?_) #[true, true, true, true, true, true, true, true, true, true, true, true, true, false, false, false, false, false, false, false, false, false, false, false, false, false, false, false] rfl rfl (any_of HT_.out (by kernel_rfl)) (fun _ _ _ h => h) (Or.inl ⟨by rfl, ?_⟩) ?_ ?_
              rotate_left
              · intro w'
                go_simp
                with_reducible rfl
              rotate_left
              · simp only [Act.put, List.setIfInBounds_toArray, List.set_cons_zero, List.set_cons_succ, i64_w, i32_w]
                rfl
              refine pure_ (i := 13) (N := some 91) (v := ?_) (a' := ?_) #[true, true, true, true, true, true, true, true, true, true, true, true, true, true, false, false, false, false, false, false, false, false, false, false, false, false, false, false] rfl rfl (any_of HT_.out (by kernel_rfl)) (fun _ _ _ h => h) (Or.inl ⟨by rfl, ?_⟩) ?_ ?_
              rotate_left
              · intro w'
                go_simp
                with_reducible rfl
              rotate_left
              · simp only [Act.put, List.setIfInBounds_toArray, List.set_cons_zero, List.set_cons_succ, i64_w, i32_w]
                rfl
              refine pure_ (i := 14) (N := some 92) (v := ?_) (a' := ?_) #[true, true, true, true, true, true, true, true, true, true, true, true, true, true, true, false, false, false, false, false, false, false, false, false, false, false, false, false] rfl rfl (any_of HT_.out (by kernel_rfl)) (fun _ _ _ h => h) (Or.inl ⟨by rfl, ?_⟩) ?_ ?_
              rotate_left
              · intro w'
                go_simp
                with_reducible rfl
              rotate_left
              · simp only [Act.put, List.setIfInBounds_toArray, List.set_cons_zero, List.set_cons_succ, i64_w, i32_w]
                rfl
              refine pure_ (i := 15) (N := some 93) (v := ?_) (a' := ?_) #[true, true, true, true, true, true, true, true, true, true, true, true, true, true, true, true, false, false, false, false, false, false, false, false, false, false, false, false] rfl rfl (any_of HT_.out (by kernel_rfl)) (fun _ _ _ h => h) (Or.inl ⟨by rfl, ?_⟩) ?_ ?_
              rotate_left
              · intro w'
                go_simp
                with_reducible rfl
              rotate_left
              · simp only [Act.put, List.setIfInBounds_toArray, List.set_cons_zero, List.set_cons_succ, i64_w, i32_w]
                rfl
              refine pure_ (i := 17) (N := some 95) (v := ?_) (a' := ?_) #[true, true, true, true, true, true, true, true, true, true, true, true, true, true, true, true, false, true, false, false, false, false, false, false, false, false, false, false] rfl rfl (any_of HT_.out (by kernel_rfl)) (fun _ _ _ h => h) (Or.inl ⟨by rfl, ?_⟩) ?_ ?_
              rotate_left
              · intro w'
                go_simp
                with_reducible rfl
              rotate_left
              · simp only [Act.put, List.setIfInBounds_toArray, List.set_cons_zero, List.set_cons_succ, i64_w, i32_w]
                rfl
              refine take_ (i := 16) (N := some 94) (v := ?_) (a' := ?_) #[true, true, true, true, true, true, true, true, true, true, true, true, true, true, true, true, true, true, false, false, false, false, false, false, false, false, false, false] rfl rfl (take_ofW HT_.out HW_.out (by kernel_rfl)) (fun _ _ _ h => h) (Or.inl ⟨by rfl, ?_⟩) hHeld ?_ ?_
              rotate_left
              · rintro w' ⟨s0, s1, s2, s3⟩
                go_simp
                with_reducible rfl
              rotate_left
              · simp only [Act.put, List.setIfInBounds_toArray, List.set_cons_zero, List.set_cons_succ, i64_w, i32_w]
                rfl
              refine pure_ (i := 18) (N := some 96) (v := ?_) (a' := ?_) #[true, true, true, true, true, true, true, true, true, true, true, true, true, true, true, true, true, true, true, false, false, false, false, false, false, false, false, false] rfl rfl (any_of HT_.out (by kernel_rfl)) (fun _ _ _ h => h) (Or.inl ⟨by rfl, ?_⟩) ?_ ?_
              rotate_left
              · intro w'
                go_simp
                with_reducible rfl
              rotate_left
              · simp only [Act.put, List.setIfInBounds_toArray, List.set_cons_zero, List.set_cons_succ, i64_w, i32_w]
                rfl
              refine pure_ (i := 19) (N := some 97) (v := ?_) (a' := ?_) #[true, true, true, true, true, true, true, true, true, true, true, true, true, true, true, true, true, true, true, true, false, false, false, false, false, false, false, false] rfl rfl (any_of HT_.out (by kernel_rfl)) (fun _ _ _ h => h) (Or.inl ⟨by rfl, ?_⟩) ?_ ?_
              rotate_left
              · intro w'
                go_simp
                with_reducible rfl
              rotate_left
              · simp only [Act.put, List.setIfInBounds_toArray, List.set_cons_zero, List.set_cons_succ, i64_w, i32_w]
                rfl
              refine pure_ (i := 20) (N := some 98) (v := ?_) (a' := ?_) #[true, true, true, true, true, true, true, true, true, true, true, true, true, true, true, true, true, true, true, true, true, false, false, false, false, false, false, false] rfl rfl (any_of HT_.out (by kernel_rfl)) (fun _ _ _ h => h) (Or.inl ⟨by rfl, ?_⟩) ?_ ?_
              rotate_left
              · intro w'
                go_simp
                with_reducible rfl
              rotate_left
              · simp only [Act.put, List.setIfInBounds_toArray, List.set_cons_zero, List.set_cons_succ, i64_w, i32_w]
                rfl
              refine pure_ (i := 21) (N := some 99) (v := ?_) (a' := ?_) #[true, true, true, true, true, true, true, true, true, true, true, true, true, true, true, true, true, true, true, true, true, true, false, false, false, false, false, false] rfl rfl (any_of HT_.out (by kernel_rfl)) (fun _ _ _ h => h) (Or.inl ⟨by rfl, ?_⟩) ?_ ?_
              rotate_left
              · intro w'
                go_simp
                with_reducible rfl
              rotate_left
              · simp only [Act.put, List.setIfInBounds_toArray, List.set_cons_zero, List.set_cons_succ, i64_w, i32_w]
                rfl
              refine pure_ (i := 24) (N := some 102) (v := ?_) (a' := ?_) #[true, true, true, true, true, true, true, true, true, true, true, true, true, true, true, true, true, true, true, true, true, true, false, false, true, false, false, false] rfl rfl (any_of HT_.out (by kernel_rfl)) (fun _ _ _ h => h) (Or.inl ⟨by rfl, ?_⟩) ?_ ?_
              rotate_left
              · intro w'
                go_simp
                with_reducible rfl
              rotate_left
              · simp only [Act.put, List.setIfInBounds_toArray, List.set_cons_zero, List.set_cons_succ, i64_w, i32_w]
                rfl
              refine pure_ (i := 25) (N := some 103) (v := ?_) (a' := ?_) #[true, true, true, true, true, true, true, true, true, true, true, true, true, true, true, true, true, true, true, true, true, true, false, false, true, true, false, false] rfl rfl (any_of HT_.out (by kernel_rfl)) (fun _ _ _ h => h) (Or.inl ⟨by rfl, ?_⟩) ?_ ?_
              rotate_left
              · intro w'
                go_simp
                with_reducible rfl
              rotate_left
              · simp only [Act.put, List.setIfInBounds_toArray, List.set_cons_zero, List.set_cons_succ, i64_w, i32_w]
                rfl
              refine take_ (i := 22) (N := some 100) (v := ?_) (a' := ?_) #[true, true, true, true, true, true, true, true, true, true, true, true, true, true, true, true, true, true, true, true, true, true, true, false, true, true, false, false] rfl rfl (take_ofW HT_.out HW_.out (by kernel_rfl)) (fun _ _ _ h => h) (Or.inl ⟨by rfl, ?_⟩) hHeld ?_ ?_
              rotate_left
              · rintro w' ⟨s0, s1, s2, s3⟩
                go_simp
                with_reducible rfl
              rotate_left
              · simp only [Act.put, List.setIfInBounds_toArray, List.set_cons_zero, List.set_cons_succ, i64_w, i32_w]
                rfl
              refine pure_ (i := 23) (N := some 101) (v := ?_) (a' := ?_) #[true, true, true, true, true, true, true, true, true, true, true, true, true, true, true, true, true, true, true, true, true, true, true, true, true, true, false, false] rfl rfl (any_of HT_.out (by kernel_rfl)) (fun _ _ _ h => h) (Or.inl ⟨by rfl, ?_⟩) ?_ ?_
              rotate_left
              · intro w'
                go_simp
                with_reducible rfl
              rotate_left
              · simp only [Act.put, List.setIfInBounds_toArray, List.set_cons_zero, List.set_cons_succ, i64_w, i32_w]
                rfl
              refine pure_ (i := 26) (N := some 104) (v := ?_) (a' := ?_) #[true, true, true, true, true, true, true, true, true, true, true, true, true, true, true, true, true, true, true, true, true, true, true, true, true, true, true, false] rfl rfl (any_of HT_.out (by kernel_rfl)) (fun _ _ _ h => h) (Or.inl ⟨by rfl, ?_⟩) ?_ ?_
              rotate_left
              · intro w'
                go_simp
                with_reducible rfl
              rotate_left
              · simp only [Act.put, List.setIfInBounds_toArray, List.set_cons_zero, List.set_cons_succ, i64_w, i32_w]
                rfl
              refine pure_ (i := 27) (N := some 105) (v := ?_) (a' := ?_) #[true, true, true, true, true, true, true, true, true, true, true, true, true, true, true, true, true, true, true, true, true, true, true, true, true, true, true, true] rfl rfl (any_of HT_.out (by kernel_rfl)) (fun _ _ _ h => h) (Or.inl ⟨by rfl, ?_⟩) ?_ ?_
              rotate_left
              · intro w'
                go_simp
                with_reducible rfl
              rotate_left
              · simp only [Act.put, List.setIfInBounds_toArray, List.set_cons_zero, List.set_cons_succ, i64_w, i32_w]
                rfl
              refine done_ (done_of HT_.out (by kernel_rfl)) ?_
              have hp2 := (blk_cell B15'.out 2).trans (show _ = some (Value.slice AP n1 cP) from rfl)
              clear hHeld
              go_wp2_with fail
              have HB99 := Aside0.mk (Below.refl w9.heap.size w9)
              clear hp2
              go_loopw [109] (fun v109 wc => ∃ (J3 : Int) (k3 : Nat), v109 = .int .i64 J3 ∧ Aside0 (J3 = (k3 : Int)) ∧ Aside0 (k3 ≤ n1) ∧ Aside0 (Below w9.heap.size w9 wc)) (fun v109 _ => n1 - (intOf v109).toNat)
              case atStart => exact ⟨0, 0, rfl, ⟨rfl⟩, ⟨Nat.zero_le _⟩, HB99⟩
              case round =>
                clear HB99
                obtain ⟨J3, k3, rfl, HJ3, HK3, HBW⟩ := hrel
                have hwr3 : wrap64 (J3 + 1) = J3 + 1 := by have := HJ3.out; have := HK3.out; have := HYL.out; have := HN1.out; unfold wrap64; omega
                by_cases hlt3 : k3 < n1
                · have hj3 := HJ3.out
                  have tlt3 : decide (J3 < (n1 : Int)) = true := decide_eq_true (by omega)
                  have p3 : 0 ≤ J3 := by omega
                  have q3 : J3 < (n1 : Int) := by omega
                  have hky : k3 < y1.length := by have := HN1.out; omega
                  obtain ⟨x, hx⟩ : ∃ x, x = (y1[k3]'hky).f1 := ⟨_, rfl⟩
                  have e36 : rd_T36 (y1.map (fun s => (⟨s.f1, false, false⟩ : S36))) (k3 : Int) = ⟨x, false, false⟩ := take_36 _ _ _ (by rw [List.getElem?_map, List.getElem?_eq_getElem hky, hx]; rfl)
                  have e31 : (rd_T31 y1 (k3 : Int)).f1 = x := by rw [take_31 _ _ _ (List.getElem?_eq_getElem hky), hx]
                  obtain ⟨ad36, ea36, h360, h361, h362⟩ := at_T36 HP9.out J3 p3 (by rw [List.length_map]; omega)
                  obtain ⟨ad31, ea31, _, hx31⟩ := at_T31 (Kd.R_reads' (show Kd.R k31 31 w9 w.heap.size (fun _ => True) (.slice A1_ y1.length q1_) y1 by rw [← HN1.out]; exact M9.out.r1)).2.2 J3 p3 (by omega)
                  cases ea36
                  cases ea31
                  obtain rfl : J3 = (k3 : Int) := hj3
                  rw [e36] at h360 h361 h362
                  rw [e31] at hx31
                  rw [Int.toNat_natCast] at h360 h361 h362 hx31
                  replace h360 := cell_on HBW.out h360
                  replace h361 := cell_on HBW.out h361
                  replace h362 := cell_on HBW.out h362
                  replace hx31 := cell_on HBW.out hx31
                  clear hx e36 e31 hky
                  replace p3 := eq_true p3
                  replace q3 := eq_true q3
                  have hu39 := Tryd.underlying39
                  go_upto_region 32 with (first | ((with_reducible refine gate_dst (N := 18) rfl ?_); refine box_event ?hg (N := 18) ?hd (cs := #[.int .i64 0, .bool false, .bool false]) (t := 39) ?hr ?_; (case hd => rfl); (case hg => rfl); (case hr => first | (go_simp; done) | (go_simp; rfl)); intro g18 hg wb hbox hb; have GE8 := Aside0.mk hg; have BK := Aside0.mk hbox; have HBX := Aside0.mk hb; clear hbox hb hg; have hz0 : wb.cell? ⟨g18, 0, none⟩ = some (.int .i64 0) := (blk_cell BK.out 0).trans rfl; have hf0 := blk_frozen BK.out 0; have hz1 : wb.cell? ⟨g18, 1, none⟩ = some (.bool false) := (blk_cell BK.out 1).trans rfl; have hf1 := blk_frozen BK.out 1; have hz2 : wb.cell? ⟨g18, 2, none⟩ = some (.bool false) := (blk_cell BK.out 2).trans rfl; have hf2 := blk_frozen BK.out 2) | fail)
                  have hgE : wr.heap.size ≤ g18 := by rw [GE8.out]; exact Nat.le_refl _
                  obtain ⟨wc8, hw8⟩ : ∃ W, W = ((wb.setCell ⟨g18, 0, none⟩ (.int .i64 x)).setCell ⟨g18, 1, none⟩ (.bool false)).setCell ⟨g18, 2, none⟩ (.bool false) := ⟨_, rfl⟩
                  have HB38 := Aside0.mk (show Below wr.heap.size wr wc8 by rw [hw8]; exact below_set (below_set (below_set HBX.out hgE) hgE) hgE)
                  have B18 := Aside0.mk (show wc8.heap[g18]? = some (.cells #[.int .i64 x, .bool false, .bool false] 39 (0, 0)) by rw [hw8]; exact (blk_set (blk_set (blk_set BK.out 0 _) 1 _) 2 _).trans rfl)
                  replace hx31 := cell_on HB38.out hx31
                  have HBW1 := Aside0.mk (below_step HBW.out HB38.out)
                  rw [← hw8]
                  clear hw8 HBX BK HB38 HBW hgE GE8 h360 h361 h362 hz0 hf0 hz1 hf1 hz2 hf2
                  refine start_ (n := 16) (S := (fun w' => w'.cell? ⟨g18, 0, none⟩ = some (.int .i64 x) ∧ w'.cell? ⟨g18, 1, none⟩ = some (.bool false) ∧ w'.cell? ⟨g18, 2, none⟩ = some (.bool false) ∧ w'.cell? ⟨(ad31.add (k3 * 2)).block, (ad31.add (k3 * 2)).off + 1, none⟩ = some (.int .i64 x))) (ds := []) #[false, false, false, false, false, false, false, false, false, false, false, false, false, false, false, false] (by kernel_rfl) rfl rfl ⟨(blk_cell B18.out 0).trans rfl, (blk_cell B18.out 1).trans rfl, (blk_cell B18.out 2).trans rfl, hx31⟩ (fun hHeld => ?_)
                  refine with_tabW a32_tab a32_bits (fun HT_ HW_ => ?_)
                  have HBW' := Aside0.mk (below_drew HBW1.out)
                  clear HBW1
                  generalize wc8.drew = wc9 at HBW' hHeld ⊢
                  refine pure_ (i := 0) (N := some 114) (v := ?_) (a' := ?_) #[true, false, false, false, false, false, false, false, false, false, false, false, false, false, false, false] rfl rfl (any_of HT_.out (by kernel_rfl)) (fun _ _ _ h => h) (Or.inl ⟨by rfl, ?_⟩) ?_ ?_
                  rotate_left
                  · intro w'
                    go_simp
                    with_reducible rfl
                  rotate_left
                  · simp only [Act.put, List.setIfInBounds_toArray, List.set_cons_zero, List.set_cons_succ, i64_w, i32_w]
                    rfl
                  refine take_ (i := 1) (N := some 115) (v := ?_) (a' := ?_) #[true, true, false, false, false, false, false, false, false, false, false, false, false, false, false, false] rfl rfl (take_ofW HT_.out HW_.out (by kernel_rfl)) (fun _ _ _ h => h) (Or.inl ⟨by rfl, ?_⟩) hHeld ?_ ?_
                  rotate_left
                  · rintro w' ⟨s0, s1, s2, s3⟩
                    go_simp
                    with_reducible rfl
                  rotate_left
                  · simp only [Act.put, List.setIfInBounds_toArray, List.set_cons_zero, List.set_cons_succ, i64_w, i32_w]
                    rfl
                  refine pure_ (i := 2) (N := some 116) (v := ?_) (a' := ?_) #[true, true, true, false, false, false, false, false, false, false, false, false, false, false, false, false] rfl rfl (any_of HT_.out (by kernel_rfl)) (fun _ _ _ h => h) (Or.inl ⟨by rfl, ?_⟩) ?_ ?_
                  rotate_left
                  · intro w'
                    go_simp
                    with_reducible rfl
                  rotate_left
                  · simp only [Act.put, List.setIfInBounds_toArray, List.set_cons_zero, List.set_cons_succ, i64_w, i32_w]
                    rfl
                  refine pure_ (i := 3) (N := some 117) (v := ?_) (a' := ?_) #[true, true, true, true, false, false, false, false, false, false, false, false, false, false, false, false] rfl rfl (any_of HT_.out (by kernel_rfl)) (fun _ _ _ h => h) (Or.inl ⟨by rfl, ?_⟩) ?_ ?_
                  rotate_left
                  · intro w'
                    go_simp
                    with_reducible rfl
                  rotate_left
                  · simp only [Act.put, List.setIfInBounds_toArray, List.set_cons_zero, List.set_cons_succ, i64_w, i32_w]
                    rfl
                  refine take_ (i := 4) (N := some 118) (v := ?_) (a' := ?_) #[true, true, true, true, true, false, false, false, false, false, false, false, false, false, false, false] rfl rfl (take_ofW HT_.out HW_.out (by kernel_rfl)) (fun _ _ _ h => h) (Or.inl ⟨by rfl, ?_⟩) hHeld ?_ ?_
                  rotate_left
                  · rintro w' ⟨s0, s1, s2, s3⟩
                    go_simp
                    with_reducible rfl
                  rotate_left
                  · simp only [Act.put, List.setIfInBounds_toArray, List.set_cons_zero, List.set_cons_succ, i64_w, i32_w]
                    rfl
                  refine pure_ (i := 5) (N := some 119) (v := ?_) (a' := ?_) #[true, true, true, true, true, true, false, false, false, false, false, false, false, false, false, false] rfl rfl (any_of HT_.out (by kernel_rfl)) (fun _ _ _ h => h) (Or.inl ⟨by rfl, ?_⟩) ?_ ?_
                  rotate_left
                  · intro w'
                    go_simp
                    with_reducible rfl
                  rotate_left
                  · simp only [Act.put, List.setIfInBounds_toArray, List.set_cons_zero, List.set_cons_succ, i64_w, i32_w]
                    rfl
                  refine pure_ (i := 6) (N := some 120) (v := ?_) (a' := ?_) #[true, true, true, true, true, true, true, false, false, false, false, false, false, false, false, false] rfl rfl (any_of HT_.out (by kernel_rfl)) (fun _ _ _ h => h) (Or.inl ⟨by rfl, ?_⟩) ?_ ?_
                  rotate_left
                  · intro w'
                    go_simp
                    with_reducible rfl
                  rotate_left
                  · simp only [Act.put, List.setIfInBounds_toArray, List.set_cons_zero, List.set_cons_succ, i64_w, i32_w]
                    rfl
                  refine pure_ (i := 7) (N := some 121) (v := ?_) (a' := ?_) #[true, true, true, true, true, true, true, true, false, false, false, false, false, false, false, false] rfl rfl (any_of HT_.out (by kernel_rfl)) (fun _ _ _ h => h) (Or.inl ⟨by rfl, ?_⟩) ?_ ?_
                  rotate_left
                  · intro w'
                    go_simp
                    with_reducible rfl
                  rotate_left
                  · simp only [Act.put, List.setIfInBounds_toArray, List.set_cons_zero, List.set_cons_succ, i64_w, i32_w]
                    rfl
                  refine pure_ (i := 9) (N := some 123) (v := ?_) (a' := ?_) #[true, true, true, true, true, true, true, true, false, true, false, false, false, false, false, false] rfl rfl (any_of HT_.out (by kernel_rfl)) (fun _ _ _ h => h) (Or.inl ⟨by rfl, ?_⟩) ?_ ?_
                  rotate_left
                  · intro w'
                    go_simp
                    with_reducible rfl
                  rotate_left
                  · simp only [Act.put, List.setIfInBounds_toArray, List.set_cons_zero, List.set_cons_succ, i64_w, i32_w]
                    rfl
                  refine pure_ (i := 10) (N := some 124) (v := ?_) (a' := ?_) #[true, true, true, true, true, true, true, true, false, true, true, false, false, false, false, false] rfl rfl (any_of HT_.out (by kernel_rfl)) (fun _ _ _ h => h) (Or.inl ⟨by rfl, ?_⟩) ?_ ?_
                  rotate_left
                  · intro w'
                    go_simp
                    with_reducible rfl
                  rotate_left
                  · simp only [Act.put, List.setIfInBounds_toArray, List.set_cons_zero, List.set_cons_succ, i64_w, i32_w]
                    rfl
                  refine pure_ (i := 11) (N := some 125) (v := ?_) (a' := ?_) #[true, true, true, true, true, true, true, true, false, true, true, true, false, false, false, false] rfl rfl (any_of HT_.out (by kernel_rfl)) (fun _ _ _ h => h) (Or.inl ⟨by rfl, ?_⟩) ?_ ?_
                  rotate_left
                  · intro w'
                    go_simp
                    with_reducible rfl
                  rotate_left
                  · simp only [Act.put, List.setIfInBounds_toArray, List.set_cons_zero, List.set_cons_succ, i64_w, i32_w]
                    rfl
                  refine pure_ (i := 12) (N := some 126) (v := ?_) (a' := ?_) #[true, true, true, true, true, true, true, true, false, true, true, true, true, false, false, false] rfl rfl (any_of HT_.out (by kernel_rfl)) (fun _ _ _ h => h) (Or.inl ⟨by rfl, ?_⟩) ?_ ?_
                  rotate_left
                  · intro w'
                    go_simp
                    with_reducible rfl
                  rotate_left
                  · simp only [Act.put, List.setIfInBounds_toArray, List.set_cons_zero, List.set_cons_succ, i64_w, i32_w]
                    rfl
                  refine take_ (i := 8) (N := some 122) (v := ?_) (a' := ?_) #[true, true, true, true, true, true, true, true, true, true, true, true, true, false, false, false] rfl rfl (take_ofW HT_.out HW_.out (by kernel_rfl)) (fun _ _ _ h => h) (Or.inl ⟨by rfl, ?_⟩) hHeld ?_ ?_
                  rotate_left
                  · rintro w' ⟨s0, s1, s2, s3⟩
                    go_simp
                    with_reducible rfl
                  rotate_left
                  · simp only [Act.put, List.setIfInBounds_toArray, List.set_cons_zero, List.set_cons_succ, i64_w, i32_w]
                    rfl
                  refine take_ (i := 13) (N := some 127) (v := ?_) (a' := ?_) #[true, true, true, true, true, true, true, true, true, true, true, true, true, true, false, false] rfl rfl (take_ofW HT_.out HW_.out (by kernel_rfl)) (fun _ _ _ h => h) (Or.inl ⟨by rfl, ?_⟩) hHeld ?_ ?_
                  rotate_left
                  · rintro w' ⟨s0, s1, s2, s3⟩
                    go_simp
                    with_reducible rfl
                  rotate_left
                  · simp only [Act.put, List.setIfInBounds_toArray, List.set_cons_zero, List.set_cons_succ, i64_w, i32_w]
                    rfl
                  refine pure_ (i := 14) (N := some 128) (v := ?_) (a' := ?_) #[true, true, true, true, true, true, true, true, true, true, true, true, true, true, true, false] rfl rfl (any_of HT_.out (by kernel_rfl)) (fun _ _ _ h => h) (Or.inl ⟨by rfl, ?_⟩) ?_ ?_
                  rotate_left
                  · intro w'
                    go_simp
                    with_reducible rfl
                  rotate_left
                  · simp only [Act.put, List.setIfInBounds_toArray, List.set_cons_zero, List.set_cons_succ, i64_w, i32_w]
                    rfl
                  refine pure_ (i := 15) (N := some 129) (v := ?_) (a' := ?_) #[true, true, true, true, true, true, true, true, true, true, true, true, true, true, true, true] rfl rfl (any_of HT_.out (by kernel_rfl)) (fun _ _ _ h => h) (Or.inl ⟨by rfl, ?_⟩) ?_ ?_
                  rotate_left
                  · intro w'
                    go_simp
                    with_reducible rfl
                  rotate_left
                  · simp only [Act.put, List.setIfInBounds_toArray, List.set_cons_zero, List.set_cons_succ, i64_w, i32_w]
                    rfl
                  refine done_ (done_of HT_.out (by kernel_rfl)) ?_
                  clear hHeld hx31
                  go_wp2_with fail
                  go_roundw
                  case rel => exact ⟨wrap64 ((k3 : Int) + 1), k3 + 1, rfl, ⟨by rw [hwr3]; rfl⟩, ⟨by omega⟩, HBW'⟩
                  case measure =>
                    rw [hwr3]
                    simp [intOf]
                    omega
                · have tlt3 : decide (J3 < (n1 : Int)) = false := decide_eq_false (by have := HJ3.out; omega)
                  have MZ := Aside0.mk (M9.out.on HBW.out)
                  go_wp2_with fail
                  go_roundw
                  case rel => exact ⟨2, _, by first | rfl | (simp [wrap64]; done), rfl, ⟨Or.inr (Or.inr ⟨rfl, by rw [HO2.out, if_pos hp, HOUT.out]⟩)⟩, MZ⟩
                  case measure => simp [intOf]
            · obtain rfl : n1 = 0 := by omega
              go_wp2_with fail
              go_roundw
              case rel => exact ⟨2, _, by first | rfl | (simp [wrap64]; done), rfl, ⟨Or.inr (Or.inr ⟨rfl, by rw [HO2.out, if_neg hp, HOUT.out]⟩)⟩, HM⟩
              case measure => simp [intOf]
          · clear HC
            subst hout
            go_wp2_with fail
            refine (HAW.out _ HM.out.b).mono ?_
            rintro e w5 ⟨rfl, hb⟩
            have HB5 := Aside0.mk (below_step HM.out.b hb)
            clear hb
            go_wp2_with fail
            refine (show Calls Tryd.prog 6 #[.int .i64 1, .slice A0 L c0] w5 fun e w' => e = .returned (.string out) ∧ Below w5.heap.size w5 w' by
              have h_ := make_ 1 (by decide) A0 c0 l w5 (Kd.C_below HR0.out HB5.out) (by have := HLN.out; omega) HINA.out.m (HLD.out.below HB5.out)
              rw [← HLL.out, HMKL.out] at h_
              exact h_).mono ?_
            rintro e w6 ⟨rfl, hb⟩
            have HB6 := Aside0.mk (below_step HB5.out hb)
            clear hb
            go_wp2
            go_ret
            exact ⟨rfl, HB6.out⟩

  | false =>
    go_enter Tryd.func4, Tryd.ntmps4
    go_wp2_with (first | ((with_reducible refine gate_dst (N := 7) rfl ?_); refine box_event ?hg (N := 7) ?hd (cs := #[.slice none 0 0, .slice none 0 0]) (t := 29) ?hr ?_; (case hd => rfl); (case hg => rfl); (case hr => first | (go_simp; done) | (go_simp; rfl)); intro g hg wb hbox hb; have GE := Aside0.mk hg; have BK := Aside0.mk hbox; have HBX := Aside0.mk hb; clear hbox hb hg) | fail)
    have HM := Aside0.mk (show M2 w.heap.size w wb g (.slice none 0 0) (.slice none 0 0) (.slice none 0 0) (.slice none 0 0) (lb false (l.take 0)) (lb true (l.take 0)) from ⟨BK.out, Kd.R_nil _ _ _ _ _, Kd.R_nil _ _ _ _ _, fun k hk => by simp [Value.ownBlock] at hk, HBX.out, by rw [GE.out]; exact Nat.le_refl _, HBX.out.size⟩)
    clear GE BK HBX
    go_loopw [34] (fun v34 wr => ∃ (J : Int) (k : Nat) (v0 v1 : Value), v34 = .int .i64 J ∧ Aside0 (J = (k : Int)) ∧ Aside0 (k ≤ L) ∧ Aside0 (M2 w.heap.size w wr g v0 v1 v0 v1 (lb false (l.take k)) (lb true (l.take k))) ∧ Aside0 (InA (l.take k))) (fun v34 _ => L - (intOf v34).toNat)
    case atStart => exact ⟨0, 0, _, _, rfl, ⟨rfl⟩, ⟨Nat.zero_le _⟩, HM, ⟨fun s hs => by simp at hs⟩⟩
    case round =>
      clear HM
      obtain ⟨J, k, v0, v1, rfl, HJ, HK, HM, HIN⟩ := hrel
      by_cases hlt : k < L
      · have hj := HJ.out
        have tlt : decide (J < (L : Int)) = true := decide_eq_true (by omega)
        have p0 : 0 ≤ J := by omega
        have q0 : J < (L : Int) := by omega
        have hwr : wrap64 (J + 1) = J + 1 := by have := HL2.out; unfold wrap64; omega
        obtain ⟨ad, e0, hx0, hx1⟩ := at_T31 HR0.out J p0 (by have := HLL.out; omega)
        cases e0
        replace hx0 := (HM.out.b.cell (World.block_lt_of_cell? w _ hx0)).trans hx0
        replace hx1 := (HM.out.b.cell (World.block_lt_of_cell? w _ hx1)).trans hx1
        have hkl : k < l.length := by have := HLL.out; omega
        have htk := take_at l k hkl
        rw [← hj] at htk
        obtain ⟨s, hs⟩ : ∃ s, s = rd_T31 l J := ⟨_, rfl⟩
        rw [← hs] at hx0 hx1 htk
        obtain ⟨b, n⟩ := s
        obtain ⟨y0, hy0⟩ : ∃ y, y = lb false (l.take k) := ⟨_, rfl⟩
        obtain ⟨y1, hy1⟩ : ∃ y, y = lb true (l.take k) := ⟨_, rfl⟩
        rw [← hy0, ← hy1] at HM
        have HYL := Aside0.mk (show y0.length ≤ 100 ∧ y1.length ≤ 100 by
          have h1 := lb_len false (l.take k)
          have h2 := lb_len true (l.take k)
          rw [List.length_take] at h1 h2
          rw [hy0, hy1]
          have := HL2.out
          omega)
        have HY2 := Aside0.mk (show lb false (l.take (k + 1)) = y0 ++ (if b = false then [⟨b, n⟩] else []) ∧ lb true (l.take (k + 1)) = y1 ++ (if b = true then [⟨b, n⟩] else []) by
          rw [htk, lb_snoc, lb_snoc, hy0, hy1]
          exact ⟨rfl, rfl⟩)
        have HTK := Aside0.mk htk
        clear hj hs hkl htk hy0 hy1
        replace p0 := eq_true p0
        replace q0 := eq_true q0
        go_upto_region 12 with (first | ((with_reducible refine gate_dst (N := 9) rfl ?_); refine box_event ?hg (N := 9) ?hd (cs := #[.bool false, .int .i64 0]) (t := 31) ?hr ?_; (case hd => rfl); (case hg => rfl); (case hr => first | (go_simp; done) | (go_simp; rfl)); intro g9 hg wb8 hbox hb; have GE8 := Aside0.mk hg; have BK := Aside0.mk hbox; have HBX := Aside0.mk hb; clear hbox hb hg; have hz0 : wb8.cell? ⟨g9, 0, none⟩ = some (.bool false) := (blk_cell BK.out 0).trans rfl; have hz1 : wb8.cell? ⟨g9, 1, none⟩ = some (.int .i64 0) := (blk_cell BK.out 1).trans rfl; have hf0 := blk_frozen BK.out 0; have hf1 := blk_frozen BK.out 1) | fail)
        have hgE : wr.heap.size ≤ g9 := by rw [GE8.out]; exact Nat.le_refl _
        obtain ⟨w8, hw8⟩ : ∃ W, W = (wb8.setCell ⟨g9, 0, none⟩ (.bool b)).setCell ⟨g9, 1, none⟩ (.int .i64 n) := ⟨_, rfl⟩
        have HM8 := Aside0.mk (show M2 w.heap.size w w8 g v0 v1 v0 v1 y0 y1 from HM.out.on (by rw [hw8]; exact below_set (below_set HBX.out hgE) hgE))
        have BK8 := Aside0.mk (show w8.heap[g9]? = some (.cells #[.bool b, .int .i64 n] 31 (0, 0)) by rw [hw8]; exact (blk_set (blk_set BK.out 0 _) 1 _).trans rfl)
        have hc90 : w8.cell? ⟨g9, 0, none⟩ = some (.bool b) := (blk_cell BK8.out 0).trans rfl
        have hc91 : w8.cell? ⟨g9, 1, none⟩ = some (.int .i64 n) := (blk_cell BK8.out 1).trans rfl
        have HNE := Aside0.mk (show some g9 ≠ v0.ownBlock ∧ some g9 ≠ v1.ownBlock from ⟨fun e => by have := Kd.R_lt HM.out.r0 _ e.symm; have := GE8.out; omega, fun e => by have := Kd.R_lt HM.out.r1 _ e.symm; have := GE8.out; omega⟩)
        rw [← hw8]
        clear hw8 HBX BK hz0 hz1 hf0 hf1 HM hx0 hx1 hgE GE8
        by_cases hn0 : n < 0
        · have tn0 : decide (n < 0) = true := decide_eq_true hn0
          go_wp2_with fail
          refine (HAW.out _ HM8.out.b).mono ?_
          rintro e w1 ⟨rfl, hb⟩
          have HB := Aside0.mk (below_step HM8.out.b hb)
          clear hb
          go_wp2
          go_ret
          exact ⟨rfl, HB.out⟩
        have tn0 : decide (n < 0) = false := decide_eq_false hn0
        by_cases hn1 : 100000 < n
        · have tn1 : decide (100000 < n) = true := decide_eq_true hn1
          go_wp2_with fail
          refine (HAW.out _ HM8.out.b).mono ?_
          rintro e w1 ⟨rfl, hb⟩
          have HB := Aside0.mk (below_step HM8.out.b hb)
          clear hb
          go_wp2
          go_ret
          exact ⟨rfl, HB.out⟩
        have tn1 : decide (100000 < n) = false := decide_eq_false hn1
        have HIN2 := Aside0.mk (show InA (l.take (k + 1)) by
          rw [HTK.out]
          intro s hs
          rcases List.mem_append.1 hs with h | h
          · exact HIN.out s h
          · obtain rfl := List.mem_singleton.1 h
            show 0 ≤ n ∧ n ≤ 100000
            omega)
        clear hn0 hn1 HIN
        cases b with
        | true =>
          go_upto_region 17 with (fail)
          refine start_ (n := 9) (S := (fun w' => w'.cell? ⟨g, 1, none⟩ = some v1 ∧ w'.cell? ⟨g9, 0, none⟩ = some (.bool true) ∧ w'.cell? ⟨g9, 1, none⟩ = some (.int .i64 n))) (ds := [8]) #[false, false, false, false, false, false, false, false, false] (by kernel_rfl) rfl rfl ⟨HM8.out.k1, hc90, hc91⟩ (fun hHeld => ?_)
          refine with_tabW a17_tab a17_bits (fun HT_ HW_ => ?_)
          have M0 := Aside0.mk (HM8.out.on (below_drew (Below.refl _ _)))
          have C0 := Aside0.mk (((below_drew (Below.refl w8.heap.size w8)).block _ (blk_lt BK8.out)).trans BK8.out)
          clear HM8 hc90 hc91
          generalize w8.drew = wy at M0 C0 hHeld ⊢
          refine pure_ (i := 0) (N := some 49) (v := ?_) (a' := ?_) #[true, false, false, false, false, false, false, false, false] rfl rfl (any_of HT_.out (by kernel_rfl)) (fun _ _ _ h => h) (Or.inl ⟨by rfl, ?_⟩) ?_ ?_
          rotate_left
          · intro w'
            go_simp
            with_reducible rfl
          rotate_left
          · simp only [Act.put, List.setIfInBounds_toArray, List.set_cons_zero, List.set_cons_succ, i64_w, i32_w]
            rfl
          refine pure_ (i := 1) (N := some 50) (v := ?_) (a' := ?_) #[true, true, false, false, false, false, false, false, false] rfl rfl (any_of HT_.out (by kernel_rfl)) (fun _ _ _ h => h) (Or.inl ⟨by rfl, ?_⟩) ?_ ?_
          rotate_left
          · intro w'
            go_simp
            with_reducible rfl
          rotate_left
          · simp only [Act.put, List.setIfInBounds_toArray, List.set_cons_zero, List.set_cons_succ, i64_w, i32_w]
            rfl
          refine pure_ (i := 2) (N := some 51) (v := ?_) (a' := ?_) #[true, true, true, false, false, false, false, false, false] rfl rfl (any_of HT_.out (by kernel_rfl)) (fun _ _ _ h => h) (Or.inl ⟨by rfl, ?_⟩) ?_ ?_
          rotate_left
          · intro w'
            go_simp
            with_reducible rfl
          rotate_left
          · simp only [Act.put, List.setIfInBounds_toArray, List.set_cons_zero, List.set_cons_succ, i64_w, i32_w]
            rfl
          refine take_ (i := 3) (N := some 52) (v := ?_) (a' := ?_) #[true, true, true, true, false, false, false, false, false] rfl rfl (take_ofW HT_.out HW_.out (by kernel_rfl)) (fun _ _ _ h => h) (Or.inl ⟨by rfl, ?_⟩) hHeld ?_ ?_
          rotate_left
          · rintro w' ⟨s0, s1, s2⟩
            go_simp
            with_reducible rfl
          rotate_left
          · simp only [Act.put, List.setIfInBounds_toArray, List.set_cons_zero, List.set_cons_succ, i64_w, i32_w]
            rfl
          refine take_ (i := 4) (N := some 53) (v := ?_) (a' := ?_) #[true, true, true, true, true, false, false, false, false] rfl rfl (take_ofW HT_.out HW_.out (by kernel_rfl)) (fun _ _ _ h => h) (Or.inl ⟨by rfl, ?_⟩) hHeld ?_ ?_
          rotate_left
          · rintro w' ⟨s0, s1, s2⟩
            go_simp
            with_reducible rfl
          rotate_left
          · simp only [Act.put, List.setIfInBounds_toArray, List.set_cons_zero, List.set_cons_succ, i64_w, i32_w]
            rfl
          refine one_ (i := 5) (N := some 54) #[true, true, true, true, true, true, false, false, false] rfl rfl (one_of HT_.out (by kernel_rfl)) (by decide) (fun K hK => ?_)
          refine value_ (w1 := ?_) (v := ?_) (by rfl) rfl ?_ ?_
          rotate_left 2
          · go_simp
            constructor
            · rfl
            · rfl
          have ha_ := below_alloc (Below.refl wy.heap.size wy) (.cells #[.bool true, .int .i64 n] 31)
          refine hK.out _ _ ⟨(M0.out.on ha_).k1, (blk_cell ((ha_.block _ (blk_lt C0.out)).trans C0.out) 0).trans rfl, (blk_cell ((ha_.block _ (blk_lt C0.out)).trans C0.out) 1).trans rfl⟩ (fun hHeld => ?_)
          clear ha_
          clear hK K
          refine norm_ (a' := ?_) ?_ ?_
          rotate_left
          · show Act.put _ (some 54) _ = _
            simp only [Act.put, List.setIfInBounds_toArray, List.set_cons_zero, List.set_cons_succ, i64_w, i32_w]
            rfl
          refine one_ (i := 6) (N := some 55) #[true, true, true, true, true, true, true, false, false] rfl rfl (one_of HT_.out (by kernel_rfl)) (by decide) (fun K hK => ?_)
          refine Kd.R_append_step k31 (w0 := w) w.heap.size (by rfl) (.tmp 52) (.tmp 54) 22 31 (.agg #[(.bool false), (.int .i64 0)]) 16 rfl Tryd.underlying22 info31' rfl (by decide) (by omega) v1 y1 (⟨true, n⟩ : S31) [.bool true, .int .i64 n] (fun _ => True) (fun _ => False) rfl rfl ?aP (fun _ hk => hk.elim) (fun _ _ => trivial) M0.out.r1 M0.out.b M0.out.lt (by have := HYL.out; omega) ?_
          (case aP => exact k31_mkM _ _ _ (⟨true, n⟩ : S31))
          intro u1 wz ho hb hg hat
          obtain ⟨A1, c1, e1⟩ : ∃ A c, u1 = .slice A (y1.length + 1) c := by obtain ⟨A, c, e⟩ := Kd.R_slice ho; exact ⟨A, c, by rw [e, List.length_append]; rfl⟩
          subst e1
          have M1 := Aside0.mk (M0.out.grow1 ho hb hg hat)
          have C1 := Aside0.mk (blk_grown C0.out hg HNE.out.2)
          clear ho hb hg hat
          have jf := M1.out.f 1
          have jk := M1.out.k1
          refine hK.out _ _ ⟨M1.out.k1, (blk_cell C1.out 0).trans rfl, (blk_cell C1.out 1).trans rfl⟩ (fun hHeld => ?_)
          clear hK K
          refine norm_ (a' := ?_) ?_ ?_
          rotate_left
          · show Act.put _ (some 55) _ = _
            simp only [Act.put, List.setIfInBounds_toArray, List.set_cons_zero, List.set_cons_succ, i64_w, i32_w]
            rfl
          refine pure_ (i := 7) (N := some 56) (v := ?_) (a' := ?_) #[true, true, true, true, true, true, true, true, false] rfl rfl (any_of HT_.out (by kernel_rfl)) (fun _ _ _ h => h) (Or.inl ⟨by rfl, ?_⟩) ?_ ?_
          rotate_left
          · intro w'
            go_simp
            with_reducible rfl
          rotate_left
          · simp only [Act.put, List.setIfInBounds_toArray, List.set_cons_zero, List.set_cons_succ, i64_w, i32_w]
            rfl
          refine last_ (i := 8) (N := none) #[true, true, true, true, true, true, true, true, true] rfl rfl (one_of HT_.out (by kernel_rfl)) (by decide) (fun K hK => ?_)
          refine skip_ (w1 := ?_) (by rfl) rfl ?_ ?_
          rotate_left
          · go_simp
            with_reducible rfl
          refine hK.out _ _ ?_
          clear hK K
          refine done_ (done_of HT_.out (by kernel_rfl)) ?_
          clear hHeld jk jf
          have MF := Aside0.mk (M1.out.store1 (.slice A1 (y1.length + 1) c1))
          go_wp2_with fail
          go_roundw
          case rel => exact ⟨wrap64 (J + 1), k + 1, _, _, rfl, ⟨by rw [hwr, HJ.out]; rfl⟩, ⟨hlt⟩, ⟨by rw [HY2.out.1, HY2.out.2]; rw [if_neg (by decide), if_pos rfl, List.append_nil]; exact MF.out⟩, HIN2⟩
          case measure =>
            have := HJ.out
            rw [hwr]
            simp [intOf]
            omega
        | false =>
          go_upto_region 17 with (fail)
          refine start_ (n := 9) (S := (fun w' => w'.cell? ⟨g, 0, none⟩ = some v0 ∧ w'.cell? ⟨g9, 0, none⟩ = some (.bool false) ∧ w'.cell? ⟨g9, 1, none⟩ = some (.int .i64 n))) (ds := [8]) #[false, false, false, false, false, false, false, false, false] (by kernel_rfl) rfl rfl ⟨HM8.out.k0, hc90, hc91⟩ (fun hHeld => ?_)
          refine with_tabW a17_tab a17_bits (fun HT_ HW_ => ?_)
          have M0 := Aside0.mk (HM8.out.on (below_drew (Below.refl _ _)))
          have C0 := Aside0.mk (((below_drew (Below.refl w8.heap.size w8)).block _ (blk_lt BK8.out)).trans BK8.out)
          clear HM8 hc90 hc91
          generalize w8.drew = wy at M0 C0 hHeld ⊢
          refine pure_ (i := 0) (N := some 49) (v := ?_) (a' := ?_) #[true, false, false, false, false, false, false, false, false] rfl rfl (any_of HT_.out (by kernel_rfl)) (fun _ _ _ h => h) (Or.inl ⟨by rfl, ?_⟩) ?_ ?_
          rotate_left
          · intro w'
            go_simp
            with_reducible rfl
          rotate_left
          · simp only [Act.put, List.setIfInBounds_toArray, List.set_cons_zero, List.set_cons_succ, i64_w, i32_w]
            rfl
          refine pure_ (i := 1) (N := some 50) (v := ?_) (a' := ?_) #[true, true, false, false, false, false, false, false, false] rfl rfl (any_of HT_.out (by kernel_rfl)) (fun _ _ _ h => h) (Or.inl ⟨by rfl, ?_⟩) ?_ ?_
          rotate_left
          · intro w'
            go_simp
            with_reducible rfl
          rotate_left
          · simp only [Act.put, List.setIfInBounds_toArray, List.set_cons_zero, List.set_cons_succ, i64_w, i32_w]
            rfl
          refine pure_ (i := 2) (N := some 51) (v := ?_) (a' := ?_) #[true, true, true, false, false, false, false, false, false] rfl rfl (any_of HT_.out (by kernel_rfl)) (fun _ _ _ h => h) (Or.inl ⟨by rfl, ?_⟩) ?_ ?_
          rotate_left
          · intro w'
            go_simp
            with_reducible rfl
          rotate_left
          · simp only [Act.put, List.setIfInBounds_toArray, List.set_cons_zero, List.set_cons_succ, i64_w, i32_w]
            rfl
          refine take_ (i := 3) (N := some 52) (v := ?_) (a' := ?_) #[true, true, true, true, false, false, false, false, false] rfl rfl (take_ofW HT_.out HW_.out (by kernel_rfl)) (fun _ _ _ h => h) (Or.inl ⟨by rfl, ?_⟩) hHeld ?_ ?_
          rotate_left
          · rintro w' ⟨s0, s1, s2⟩
            go_simp
            with_reducible rfl
          rotate_left
          · simp only [Act.put, List.setIfInBounds_toArray, List.set_cons_zero, List.set_cons_succ, i64_w, i32_w]
            rfl
          refine take_ (i := 4) (N := some 53) (v := ?_) (a' := ?_) #[true, true, true, true, true, false, false, false, false] rfl rfl (take_ofW HT_.out HW_.out (by kernel_rfl)) (fun _ _ _ h => h) (Or.inl ⟨by rfl, ?_⟩) hHeld ?_ ?_
          rotate_left
          · rintro w' ⟨s0, s1, s2⟩
            go_simp
            with_reducible rfl
          rotate_left
          · simp only [Act.put, List.setIfInBounds_toArray, List.set_cons_zero, List.set_cons_succ, i64_w, i32_w]
            rfl
          refine one_ (i := 5) (N := some 54) #[true, true, true, true, true, true, false, false, false] rfl rfl (one_of HT_.out (by kernel_rfl)) (by decide) (fun K hK => ?_)
          refine value_ (w1 := ?_) (v := ?_) (by rfl) rfl ?_ ?_
          rotate_left 2
          · go_simp
            constructor
            · rfl
            · rfl
          have ha_ := below_alloc (Below.refl wy.heap.size wy) (.cells #[.bool false, .int .i64 n] 31)
          refine hK.out _ _ ⟨(M0.out.on ha_).k0, (blk_cell ((ha_.block _ (blk_lt C0.out)).trans C0.out) 0).trans rfl, (blk_cell ((ha_.block _ (blk_lt C0.out)).trans C0.out) 1).trans rfl⟩ (fun hHeld => ?_)
          clear ha_
          clear hK K
          refine norm_ (a' := ?_) ?_ ?_
          rotate_left
          · show Act.put _ (some 54) _ = _
            simp only [Act.put, List.setIfInBounds_toArray, List.set_cons_zero, List.set_cons_succ, i64_w, i32_w]
            rfl
          refine one_ (i := 6) (N := some 55) #[true, true, true, true, true, true, true, false, false] rfl rfl (one_of HT_.out (by kernel_rfl)) (by decide) (fun K hK => ?_)
          refine Kd.R_append_step k31 (w0 := w) w.heap.size (by rfl) (.tmp 52) (.tmp 54) 22 31 (.agg #[(.bool false), (.int .i64 0)]) 16 rfl Tryd.underlying22 info31' rfl (by decide) (by omega) v0 y0 (⟨false, n⟩ : S31) [.bool false, .int .i64 n] (fun _ => True) (fun _ => False) rfl rfl ?aP (fun _ hk => hk.elim) (fun _ _ => trivial) M0.out.r0 M0.out.b M0.out.lt (by have := HYL.out; omega) ?_
          (case aP => exact k31_mkM _ _ _ (⟨false, n⟩ : S31))
          intro u1 wz ho hb hg hat
          obtain ⟨A1, c1, e1⟩ : ∃ A c, u1 = .slice A (y0.length + 1) c := by obtain ⟨A, c, e⟩ := Kd.R_slice ho; exact ⟨A, c, by rw [e, List.length_append]; rfl⟩
          subst e1
          have M1 := Aside0.mk (M0.out.grow0 ho hb hg hat)
          have C1 := Aside0.mk (blk_grown C0.out hg HNE.out.1)
          clear ho hb hg hat
          have jf := M1.out.f 0
          have jk := M1.out.k0
          refine hK.out _ _ ⟨M1.out.k0, (blk_cell C1.out 0).trans rfl, (blk_cell C1.out 1).trans rfl⟩ (fun hHeld => ?_)
          clear hK K
          refine norm_ (a' := ?_) ?_ ?_
          rotate_left
          · show Act.put _ (some 55) _ = _
            simp only [Act.put, List.setIfInBounds_toArray, List.set_cons_zero, List.set_cons_succ, i64_w, i32_w]
            rfl
          refine pure_ (i := 7) (N := some 56) (v := ?_) (a' := ?_) #[true, true, true, true, true, true, true, true, false] rfl rfl (any_of HT_.out (by kernel_rfl)) (fun _ _ _ h => h) (Or.inl ⟨by rfl, ?_⟩) ?_ ?_
          rotate_left
          · intro w'
            go_simp
            with_reducible rfl
          rotate_left
          · simp only [Act.put, List.setIfInBounds_toArray, List.set_cons_zero, List.set_cons_succ, i64_w, i32_w]
            rfl
          refine last_ (i := 8) (N := none) #[true, true, true, true, true, true, true, true, true] rfl rfl (one_of HT_.out (by kernel_rfl)) (by decide) (fun K hK => ?_)
          refine skip_ (w1 := ?_) (by rfl) rfl ?_ ?_
          rotate_left
          · go_simp
            with_reducible rfl
          refine hK.out _ _ ?_
          clear hK K
          refine done_ (done_of HT_.out (by kernel_rfl)) ?_
          clear hHeld jk jf
          have MF := Aside0.mk (M1.out.store0 (.slice A1 (y0.length + 1) c1))
          go_wp2_with fail
          go_roundw
          case rel => exact ⟨wrap64 (J + 1), k + 1, _, _, rfl, ⟨by rw [hwr, HJ.out]; rfl⟩, ⟨hlt⟩, ⟨by rw [HY2.out.1, HY2.out.2]; rw [if_pos rfl, if_neg (by decide), List.append_nil]; exact MF.out⟩, HIN2⟩
          case measure =>
            have := HJ.out
            rw [hwr]
            simp [intOf]
            omega
      · have tlt : decide (J < (L : Int)) = false := decide_eq_false (by have := HJ.out; omega)
        have hk : k = L := by have := HK.out; omega
        rw [hk, HLL.out, List.take_length] at HM HIN
        clear hk hlt HJ HK
        obtain ⟨y0, hy0⟩ : ∃ y, y = lb false l := ⟨_, rfl⟩
        obtain ⟨y1, hy1⟩ : ∃ y, y = lb true l := ⟨_, rfl⟩
        have HYL := Aside0.mk (show y0.length ≤ 30 ∧ y1.length ≤ 30 by
          have h1 := lb_len false l
          have h2 := lb_len true l
          rw [hy0, hy1]
          have := HL2.out
          have := HLL.out
          omega)
        have HYI := Aside0.mk (show InA y0 ∧ InA y1 by rw [hy0, hy1]; exact ⟨HIN.out.lb _, HIN.out.lb _⟩)
        obtain ⟨t0, ht0⟩ : ∃ t, t = setT false y0 := ⟨_, rfl⟩
        obtain ⟨t1, ht1⟩ : ∃ t, t = setT false y1 := ⟨_, rfl⟩
        obtain ⟨o1, ho1⟩ : ∃ t, t = both0 false l := ⟨_, rfl⟩
        obtain ⟨o2, ho2⟩ : ∃ t, t = both1 false l := ⟨_, rfl⟩
        have HO1 := Aside0.mk (show o1 = if 0 < y0.length then (⟨#[]⟩ : ByteArray) ++ t0 else ⟨#[]⟩ by rw [ho1, ht0, hy0]; rfl)
        have HO2 := Aside0.mk (show o2 = if 0 < y1.length then o1 ++ t1 else o1 by rw [ho2, ho1, ht1, hy1]; rfl)
        have HOE := Aside0.mk (show setT false l = o2 by rw [ho2]; exact both_is false l)
        have HLN := Aside0.mk (show l.length ≤ 30 by have := HL2.out; have := HLL.out; omega)
        have HS0 := Aside0.mk (show t0.size ≤ 700 by rw [ht0, hy0]; exact set_size false false l HLN.out HIN.out)
        have HS1 := Aside0.mk (show t1.size ≤ 700 by rw [ht1, hy1]; exact set_size false true l HLN.out HIN.out)
        have HSO := Aside0.mk (show o1.size ≤ 700 by
          rw [HO1.out]
          split
          · rw [ByteArray.size_append]
            have := HS0.out
            have h : (⟨#[]⟩ : ByteArray).size = 0 := rfl
            omega
          · decide)
        have HRD0 := Aside0.mk (show 0 < y0.length → spec_ReadSequence.f (bytesOf t0) = some (1, 0, y0.map (fun s => (⟨s.f1, false, false⟩ : S36)), [], 104, [], false, true) from fun h => by rw [ht0, hy0]; rw [hy0] at h; exact read_kind false false l h HLN.out HIN.out)
        have HRD1 := Aside0.mk (show 0 < y1.length → spec_ReadSequence.f (bytesOf t1) = some (1, 63, y1.map (fun s => (⟨s.f1, false, false⟩ : S36)), [], 104, [], false, true) from fun h => by rw [ht1, hy1]; rw [hy1] at h; exact read_kind false true l h HLN.out HIN.out)
        have HMK0 := Aside0.mk (show makeT 0 y0 = t0 by rw [ht0]; rfl)
        have HMK1 := Aside0.mk (show makeT 0 y1 = t1 by rw [ht1]; rfl)
        have HMKL := Aside0.mk (show makeT 0 l = o2 by rw [← HOE.out]; rfl)
        have HINA := HIN
        rw [← hy0, ← hy1] at HM
        clear hy0 hy1 ht0 ht1 ho1 ho2 HIN
        have hk0 := HM.out.k0
        have hk1 := HM.out.k1
        have hu29 := Tryd.underlying29
        obtain ⟨A0_, q0_, ea0⟩ := Kd.R_slice HM.out.r0
        obtain ⟨A1_, q1_, ea1⟩ := Kd.R_slice HM.out.r1
        obtain ⟨n0, hn0⟩ : ∃ n, n = y0.length := ⟨_, rfl⟩
        obtain ⟨n1, hn1⟩ : ∃ n, n = y1.length := ⟨_, rfl⟩
        have HN0 := Aside0.mk hn0
        have HN1 := Aside0.mk hn1
        rw [← hn0] at ea0
        rw [← hn1] at ea1
        subst ea0 ea1
        rw [← hn0] at HO1 HRD0
        rw [← hn1] at HO2 HRD1
        clear hn0 hn1
        go_wp2_with fail
        have HM0 := HM
        clear HM hk0 hk1
        go_loopw [11, 59] (fun v11 v59 wr2 => ∃ (J2 : Int) (out : ByteArray), v59 = .int .i64 J2 ∧ v11 = .string out ∧ Aside0 ((J2 = 0 ∧ out = ⟨#[]⟩) ∨ (J2 = 1 ∧ out = o1) ∨ (J2 = 2 ∧ out = o2)) ∧ Aside0 (M2 w.heap.size w wr2 g (.slice A0_ n0 q0_) (.slice A1_ n1 q1_) (.slice A0_ n0 q0_) (.slice A1_ n1 q1_) y0 y1)) (fun _ v59 _ => 2 - (intOf v59).toNat)
        case atStart => exact ⟨0, _, rfl, rfl, ⟨Or.inl ⟨rfl, rfl⟩⟩, HM0⟩
        case round =>
          clear HM0
          obtain ⟨J2, out, rfl, rfl, HC, HM⟩ := hrel
          rcases HC.out with ⟨rfl, hout⟩ | ⟨rfl, hout⟩ | ⟨rfl, hout⟩
          · clear HC
            have so : out.size ≤ 700 := by
              rw [hout]
              decide
            have st : t0.size ≤ 700 := HS0.out
            have HOUT := Aside0.mk hout
            have hix := ia0
            have his := is0
            have kb_ := fun (s : ByteArray) (W : World) => print_bytes (P := Tryd.prog) 9 33 5 Tryd.underlying9 Tryd.underlying33 Tryd.underlying5 s W
            clear hout
            by_cases hp : 0 < n0
            · have tz : ((n0 : Int) == 0) = false := by simp; omega
              have HRD := Aside0.mk (HRD0.out hp)
              go_wp2_with fail
              refine (show Calls Tryd.prog 6 #[.int .i64 0, .slice A0_ n0 q0_] wr fun e w' => e = .returned (.string t0) ∧ Below wr.heap.size wr w' by
                have hC := (Kd.R_reads' (show Kd.R k31 31 wr w.heap.size (fun _ => True) (.slice A0_ y0.length q0_) y0 by rw [← HN0.out]; exact HM.out.r0)).2.2
                have h_ := make_ 0 (by decide) A0_ q0_ y0 wr hC (by have := HYL.out; omega) HYI.out.1.m (HLD.out.below HM.out.b)
                rw [← HN0.out, HMK0.out] at h_
                exact h_).mono ?_
              rintro e w5 ⟨rfl, hb5⟩
              have M5 := Aside0.mk (HM.out.on hb5)
              clear hb5 HM
              go_wp2_with fail
              with_reducible refine Ext.calls_len (m := (bytesOf t0).length) (k := t0.size) (bytesOf_length _) rfl ?_
              refine (spec_ReadSequence.calls _ _ (bytesOf t0) _ _ _ _ _ _ _ _ _ (Ext.C_bytes _ _ t0 (by omega)) (Ext.bytes_room _ _ _) HRD.out).mono ?_
              rintro e w6 ⟨vP, vI, v3, rfl, hP, hI, h3, hb6⟩
              have M6 := Aside0.mk (M5.out.on (below_step (Ext.below_bytes (Below.refl _ _)) hb6))
              obtain ⟨AP, cP, eP⟩ : ∃ A c, vP = .slice A n0 c := by obtain ⟨A, c, e⟩ := Kd.R_slice hP; exact ⟨A, c, by rw [e, List.length_map, HN0.out]⟩
              obtain ⟨AI, cI, eI⟩ : ∃ A c, vI = .slice A 0 c := Kd.R_slice hI
              obtain ⟨A3, c3, e3⟩ : ∃ A c, v3 = .slice A 0 c := Kd.R_slice h3
              subst eP eI e3
              have HP6 := Aside0.mk (show Kd.C k36 w6 AP (y0.map (fun s => (⟨s.f1, false, false⟩ : S36))).length (y0.map (fun s => (⟨s.f1, false, false⟩ : S36))) by have h := (Kd.R_reads' hP).2.2; first | exact h | (rw [List.length_map, ← HN0.out]; exact h))
              clear hP hI h3 hb6 M5
              go_upto_region 27 with (first | ((with_reducible refine gate_dst (N := 15) rfl ?_); refine box_event ?hg (N := 15) ?hd (cs := #[.int .i64 0, .int .u8 0, .slice none 0 0, .slice none 0 0, .int .u8 0, .slice none 0 0, .bool false]) (t := 35) ?hr ?_; (case hd => rfl); (case hg => rfl); (case hr => first | (go_simp; done) | (go_simp; rfl)); intro g15 hg wb hbox hb; have GE8 := Aside0.mk hg; have BK := Aside0.mk hbox; have HBX := Aside0.mk hb; clear hbox hb hg; have hz0 : wb.cell? ⟨g15, 0, none⟩ = some (.int .i64 0) := (blk_cell BK.out 0).trans rfl; have hf0 := blk_frozen BK.out 0; have hz1 : wb.cell? ⟨g15, 1, none⟩ = some (.int .u8 0) := (blk_cell BK.out 1).trans rfl; have hf1 := blk_frozen BK.out 1; have hz2 : wb.cell? ⟨g15, 2, none⟩ = some (.slice none 0 0) := (blk_cell BK.out 2).trans rfl; have hf2 := blk_frozen BK.out 2; have hz3 : wb.cell? ⟨g15, 3, none⟩ = some (.slice none 0 0) := (blk_cell BK.out 3).trans rfl; have hf3 := blk_frozen BK.out 3; have hz4 : wb.cell? ⟨g15, 4, none⟩ = some (.int .u8 0) := (blk_cell BK.out 4).trans rfl; have hf4 := blk_frozen BK.out 4; have hz5 : wb.cell? ⟨g15, 5, none⟩ = some (.slice none 0 0) := (blk_cell BK.out 5).trans rfl; have hf5 := blk_frozen BK.out 5; have hz6 : wb.cell? ⟨g15, 6, none⟩ = some (.bool false) := (blk_cell BK.out 6).trans rfl; have hf6 := blk_frozen BK.out 6) | fail)
              have hgE : w6.heap.size ≤ g15 := by rw [GE8.out]; exact Nat.le_refl _
              obtain ⟨w8, hw8⟩ : ∃ W, W = (((((((wb.setCell ⟨g15, 0, none⟩ (.int .i64 1)).setCell ⟨g15, 1, none⟩ (.int .u8 0)).setCell ⟨g15, 2, none⟩ (.slice AP n0 cP)).setCell ⟨g15, 3, none⟩ (.slice AI 0 cI)).setCell ⟨g15, 4, none⟩ (.int .u8 104)).setCell ⟨g15, 5, none⟩ (.slice A3 0 c3)).setCell ⟨g15, 6, none⟩ (.bool false)) := ⟨_, rfl⟩
              have HB68 := Aside0.mk (show Below w6.heap.size w6 w8 by rw [hw8]; exact (below_set (below_set (below_set (below_set (below_set (below_set (below_set HBX.out hgE) hgE) hgE) hgE) hgE) hgE) hgE))
              have B15 := Aside0.mk (show w8.heap[g15]? = some (.cells #[.int .i64 1, .int .u8 0, .slice AP n0 cP, .slice AI 0 cI, .int .u8 104, .slice A3 0 c3, .bool false] 35 (0, 0)) by rw [hw8]; exact (blk_set (blk_set (blk_set (blk_set (blk_set (blk_set (blk_set BK.out 0 _) 1 _) 2 _) 3 _) 4 _) 5 _) 6 _).trans rfl)
              have M8 := Aside0.mk (M6.out.on HB68.out)
              have HP8 := Aside0.mk (Kd.C_below HP6.out HB68.out)
              rw [← hw8]
              clear hw8 HBX BK HB68 HP6 M6 hgE GE8 hz0 hf0 hz1 hf1 hz2 hf2 hz3 hf3 hz4 hf4 hz5 hf5 hz6 hf6
              refine start_ (n := 28) (S := (fun w' => w'.cell? ⟨g15, 0, none⟩ = some (.int .i64 1) ∧ w'.cell? ⟨g15, 1, none⟩ = some (.int .u8 0) ∧ w'.cell? ⟨g15, 4, none⟩ = some (.int .u8 104) ∧ w'.cell? ⟨g15, 2, none⟩ = some (.slice AP n0 cP))) (ds := []) #[false, false, false, false, false, false, false, false, false, false, false, false, false, false, false, false, false, false, false, false, false, false, false, false, false, false, false, false] (by kernel_rfl) rfl rfl ⟨(blk_cell B15.out 0).trans rfl, (blk_cell B15.out 1).trans rfl, (blk_cell B15.out 4).trans rfl, (blk_cell B15.out 2).trans rfl⟩ (fun hHeld => ?_)
              refine with_tabW a27_tab a27_bits (fun HT_ HW_ => ?_)
              have M9 := Aside0.mk (M8.out.on (below_drew (Below.refl _ _)))
              have B15' := Aside0.mk (((below_drew (Below.refl w8.heap.size w8)).block _ (blk_lt B15.out)).trans B15.out)
              have HP9 := Aside0.mk (Kd.C_below HP8.out (below_drew (Below.refl _ _)))
              clear M8 B15 HP8
              generalize w8.drew = w9 at M9 B15' HP9 hHeld ⊢
              refine pure_ (i := 0) (N := some 78) (v := ?_) (a' := ?_) #[true, false, false, false, false, false, false, false, false, false, false, false, false, false, false, false, false, false, false, false, false, false, false, false, false, false, false, false] rfl rfl (any_of HT_.out (by kernel_rfl)) (fun _ _ _ h => h) (Or.inl ⟨by rfl, ?_⟩) ?_ ?_
              rotate_left
              · intro w'
                go_simp
                with_reducible rfl
              rotate_left
              · simp only [Act.put, List.setIfInBounds_toArray, List.set_cons_zero, List.set_cons_succ, i64_w, i32_w]
                rfl
              refine pure_ (i := 1) (N := some 79) (v := ?_) (a' := ?_) #[true, true, false, false, false, false, false, false, false, false, false, false, false, false, false, false, false, false, false, false, false, false, false, false, false, false, false, false] rfl rfl (any_of HT_.out (by kernel_rfl)) (fun _ _ _ h => h) (Or.inl ⟨by rfl, ?_⟩) ?_ ?_
              rotate_left
              · intro w'
                go_simp
                with_reducible rfl
              rotate_left
              · simp only [Act.put, List.setIfInBounds_toArray, List.set_cons_zero, List.set_cons_succ, i64_w, i32_w]
                rfl
              refine pure_ (i := 2) (N := some 80) (v := ?_) (a' := ?_) #[true, true, true, false, false, false, false, false, false, false, false, false, false, false, false, false, false, false, false, false, false, false, false, false, false, false, false, false] rfl rfl (any_of HT_.out (by kernel_rfl)) (fun _ _ _ h => h) (Or.inl ⟨by rfl, ?_⟩) ?_ ?_
              rotate_left
              · intro w'
                go_simp
                with_reducible rfl
              rotate_left
              · simp only [Act.put, List.setIfInBounds_toArray, List.set_cons_zero, List.set_cons_succ, i64_w, i32_w]
                rfl
              refine pure_ (i := 3) (N := some 81) (v := ?_) (a' := ?_) #[true, true, true, true, false, false, false, false, false, false, false, false, false, false, false, false, false, false, false, false, false, false, false, false, false, false, false, false] rfl rfl (any_of HT_.out (by kernel_rfl)) (fun _ _ _ h => h) (Or.inl ⟨by rfl, ?_⟩) ?_ ?_
              rotate_left
              · intro w'
                go_simp
                with_reducible rfl
              rotate_left
              · simp only [Act.put, List.setIfInBounds_toArray, List.set_cons_zero, List.set_cons_succ, i64_w, i32_w]
                rfl
              refine take_ (i := 4) (N := some 82) (v := ?_) (a' := ?_) #[true, true, true, true, true, false, false, false, false, false, false, false, false, false, false, false, false, false, false, false, false, false, false, false, false, false, false, false] rfl rfl (take_ofW HT_.out HW_.out (by kernel_rfl)) (fun _ _ _ h => h) (Or.inl ⟨by rfl, ?_⟩) hHeld ?_ ?_
              rotate_left
              · rintro w' ⟨s0, s1, s2, s3⟩
                go_simp
                with_reducible rfl
              rotate_left
              · simp only [Act.put, List.setIfInBounds_toArray, List.set_cons_zero, List.set_cons_succ, i64_w, i32_w]
                rfl
              refine pure_ (i := 5) (N := some 83) (v := ?_) (a' := ?_) #[true, true, true, true, true, true, false, false, false, false, false, false, false, false, false, false, false, false, false, false, false, false, false, false, false, false, false, false] rfl rfl (any_of HT_.out (by kernel_rfl)) (fun _ _ _ h => h) (Or.inl ⟨by rfl, ?_⟩) ?_ ?_
              rotate_left
              · intro w'
                go_simp
                with_reducible rfl
              rotate_left
              · simp only [Act.put, List.setIfInBounds_toArray, List.set_cons_zero, List.set_cons_succ, i64_w, i32_w]
                rfl
              refine pure_ (i := 6) (N := some 84) (v := ?_) (a' := ?_) #[true, true, true, true, true, true, true, false, false, false, false, false, false, false, false, false, false, false, false, false, false, false, false, false, false, false, false, false] rfl rfl (any_of HT_.out (by kernel_rfl)) (fun _ _ _ h => h) (Or.inl ⟨by rfl, ?_⟩) ?_ ?_
              rotate_left
              · intro w'
                go_simp
                with_reducible rfl
              rotate_left
              · simp only [Act.put, List.setIfInBounds_toArray, List.set_cons_zero, List.set_cons_succ, i64_w, i32_w]
                rfl
              refine pure_ (i := 7) (N := some 85) (v := ?_) (a' := ?_) #[true, true, true, true, true, true, true, true, false, false, false, false, false, false, false, false, false, false, false, false, false, false, false, false, false, false, false, false] rfl rfl (any_of HT_.out (by kernel_rfl)) (fun _ _ _ h => h) (Or.inl ⟨by rfl, ?_⟩) ?_ ?_
              rotate_left
              · intro w'
                go_simp
                with_reducible rfl
              rotate_left
              · simp only [Act.put, List.setIfInBounds_toArray, List.set_cons_zero, List.set_cons_succ, i64_w, i32_w]
                rfl
              refine pure_ (i := 8) (N := some 86) (v := ?_) (a' := ?_) #[true, true, true, true, true, true, true, true, true, false, false, false, false, false, false, false, false, false, false, false, false, false, false, false, false, false, false, false] rfl rfl (any_of HT_.out (by kernel_rfl)) (fun _ _ _ h => h) (Or.inl ⟨by rfl, ?_⟩) ?_ ?_
              rotate_left
              · intro w'
                go_simp
                with_reducible rfl
              rotate_left
              · simp only [Act.put, List.setIfInBounds_toArray, List.set_cons_zero, List.set_cons_succ, i64_w, i32_w]
                rfl
              refine pure_ (i := 10) (N := some 88) (v := ?_) (a' := ?_) #[true, true, true, true, true, true, true, true, true, false, true, false, false, false, false, false, false, false, false, false, false, false, false, false, false, false, false, false] rfl rfl (any_of HT_.out (by kernel_rfl)) (fun _ _ _ h => h) (Or.inl ⟨by rfl, ?_⟩) ?_ ?_
              rotate_left
              · intro w'
                go_simp
                with_reducible rfl
              rotate_left
              · simp only [Act.put, List.setIfInBounds_toArray, List.set_cons_zero, List.set_cons_succ, i64_w, i32_w]
                rfl
              refine pure_ (i := 11) (N := some 89) (v := ?_) (a' := ?_) #[true, true, true, true, true, true, true, true, true, false, true, true, false, false, false, false, false, false, false, false, false, false, false, false, false, false, false, false] rfl rfl (any_of HT_.out (by kernel_rfl)) (fun _ _ _ h => h) (Or.inl ⟨by rfl, ?_⟩) ?_ ?_
              rotate_left
              · intro w'
                go_simp
                with_reducible rfl
              rotate_left
              · simp only [Act.put, List.setIfInBounds_toArray, List.set_cons_zero, List.set_cons_succ, i64_w, i32_w]
                rfl
              refine take_ (i := 9) (N := some 87) (v := ?_) (a' := ?_) #[true, true, true, true, true, true, true, true, true, true, true, true, false, false, false, false, false, false, false, false, false, false, false, false, false, false, false, false] rfl rfl (take_ofW HT_.out HW_.out (by kernel_rfl)) (fun _ _ _ h => h) (Or.inl ⟨by rfl, ?_⟩) hHeld ?_ ?_
              rotate_left
              · rintro w' ⟨s0, s1, s2, s3⟩
                go_simp
                with_reducible rfl
              rotate_left
              · simp only [Act.put, List.setIfInBounds_toArray, List.set_cons_zero, List.set_cons_succ, i64_w, i32_w]
                rfl
              refine pure_ (i := 12) (N := some 90) (v := ?_) (a' := ?_) #[true, true, true, true, true, true, true, true, true, true, true, true, true, false, false, false, false, false, false, false, false, false, false, false, false, false, false, false] rfl rfl (any_of HT_.out (by kernel_rfl)) (fun _ _ _ h => h) (Or.inl ⟨by rfl, ?_⟩) ?_ ?_
              rotate_left
              · intro w'
                go_simp
                with_reducible rfl
              rotate_left
              · simp only [Act.put, List.setIfInBounds_toArray, List.set_cons_zero, List.set_cons_succ, i64_w, i32_w]
                rfl
              refine pure_ (i := 13) (N := some 91) (v := ?_) (a' := ?_) #[true, true, true, true, true, true, true, true, true, true, true, true, true, true, false, false, false, false, false, false, false, false, false, false, false, false, false, false] rfl rfl (any_of HT_.out (by kernel_rfl)) (fun _ _ _ h => h) (Or.inl ⟨by rfl, ?_⟩) ?_ ?_
              rotate_left
              · intro w'
                go_simp
                with_reducible rfl
              rotate_left
              · simp only [Act.put, List.setIfInBounds_toArray, List.set_cons_zero, List.set_cons_succ, i64_w, i32_w]
                rfl
              refine pure_ (i := 14) (N := some 92) (v := ?_) (a' := ?_) #[true, true, true, true, true, true, true, true, true, true, true, true, true, true, true, false, false, false, false, false, false, false, false, false, false, false, false, false] rfl rfl (any_of HT_.out (by kernel_rfl)) (fun _ _ _ h => h) (Or.inl ⟨by rfl, ?_⟩) ?_ ?_
              rotate_left
              · intro w'
                go_simp
                with_reducible rfl
              rotate_left
              · simp only [Act.put, List.setIfInBounds_toArray, List.set_cons_zero, List.set_cons_succ, i64_w, i32_w]
                rfl
              refine pure_ (i := 15) (N := some 93) (v := ?_) (a' := ?_) #[true, true, true, true, true, true, true, true, true, true, true, true, true, true, true, true, false, false, false, false, false, false, false, false, false, false, false, false] rfl rfl (any_of HT_.out (by kernel_rfl)) (fun _ _ _ h => h) (Or.inl ⟨by rfl, ?_⟩) ?_ ?_
              rotate_left
              · intro w'
                go_simp
                with_reducible rfl
              rotate_left
              · simp only [Act.put, List.setIfInBounds_toArray, List.set_cons_zero, List.set_cons_succ, i64_w, i32_w]
                rfl
              refine pure_ (i := 17) (N := some 95) (v := ?_) (a' := ?_) #[true, true, true, true, true, true, true, true, true, true, true, true, true, true, true, true, false, true, false, false, false, false, false, false, false, false, false, false] rfl rfl (any_of HT_.out (by kernel_rfl)) (fun _ _ _ h => h) (Or.inl ⟨by rfl, ?_⟩) ?_ ?_
              rotate_left
              · intro w'
                go_simp
                with_reducible rfl
              rotate_left
              · simp only [Act.put, List.setIfInBounds_toArray, List.set_cons_zero, List.set_cons_succ, i64_w, i32_w]
                rfl
              refine take_ (i := 16) (N := some 94) (v := ?_) (a' := ?_) #[true, true, true, true, true, true, true, true, true, true, true, true, true, true, true, true, true, true, false, false, false, false, false, false, false, false, false, false] rfl rfl (take_ofW HT_.out HW_.out (by kernel_rfl)) (fun _ _ _ h => h) (Or.inl ⟨by rfl, ?_⟩) hHeld ?_ ?_
              rotate_left
              · rintro w' ⟨s0, s1, s2, s3⟩
                go_simp
                with_reducible rfl
              rotate_left
              · simp only [Act.put, List.setIfInBounds_toArray, List.set_cons_zero, List.set_cons_succ, i64_w, i32_w]
                rfl
              refine pure_ (i := 18) (N := some 96) (v := ?_) (a' := ?_) #[true, true, true, true, true, true, true, true, true, true, true, true, true, true, true, true, true, true, true, false, false, false, false, false, false, false, false, false] rfl rfl (any_of HT_.out (by kernel_rfl)) (fun _ _ _ h => h) (Or.inl ⟨by rfl, ?_⟩) ?_ ?_
              rotate_left
              · intro w'
                go_simp
                with_reducible rfl
              rotate_left
              · simp only [Act.put, List.setIfInBounds_toArray, List.set_cons_zero, List.set_cons_succ, i64_w, i32_w]
                rfl
              refine pure_ (i := 19) (N := some 97) (v := ?_) (a' := ?_) #[true, true, true, true, true, true, true, true, true, true, true, true, true, true, true, true, true, true, true, true, false, false, false, false, false, false, false, false] rfl rfl (any_of HT_.out (by kernel_rfl)) (fun _ _ _ h => h) (Or.inl ⟨by rfl, ?_⟩) ?_ ?_
              rotate_left
              · intro w'
                go_simp
                with_reducible rfl
              rotate_left
              · simp only [Act.put, List.setIfInBounds_toArray, List.set_cons_zero, List.set_cons_succ, i64_w, i32_w]
                rfl
              refine pure_ (i := 20) (N := some 98) (v := ?_) (a' := ?_) #[true, true, true, true, true, true, true, true, true, true, true, true, true, true, true, true, true, true, true, true, true, false, false, false, false, false, false, false] rfl rfl (any_of HT_.out (by kernel_rfl)) (fun _ _ _ h => h) (Or.inl ⟨by rfl, ?_⟩) ?_ ?_
              rotate_left
              · intro w'
                go_simp
                with_reducible rfl
              rotate_left
              · simp only [Act.put, List.setIfInBounds_toArray, List.set_cons_zero, List.set_cons_succ, i64_w, i32_w]
                rfl
              refine pure_ (i := 21) (N := some 99) (v := ?_) (a' := ?_) #[true, true, true, true, true, true, true, true, true, true, true, true, true, true, true, true, true, true, true, true, true, true, false, false, false, false, false, false] rfl rfl (any_of HT_.out (by kernel_rfl)) (fun _ _ _ h => h) (Or.inl ⟨by rfl, ?_⟩) ?_ ?_
              rotate_left
              · intro w'
                go_simp
                with_reducible rfl
              rotate_left
              · simp only [Act.put, List.setIfInBounds_toArray, List.set_cons_zero, List.set_cons_succ, i64_w, i32_w]
                rfl
              refine pure_ (i := 24) (N := some 102) (v := ?_) (a' := ?_) #[true, true, true, true, true, true, true, true, true, true, true, true, true, true, true, true, true, true, true, true, true, true, false, false, true, false, false, false] rfl rfl (any_of HT_.out (by kernel_rfl)) (fun _ _ _ h => h) (Or.inl ⟨by rfl, ?_⟩) ?_ ?_
              rotate_left
              · intro w'
                go_simp
                with_reducible rfl
              rotate_left
              · simp only [Act.put, List.setIfInBounds_toArray, List.set_cons_zero, List.set_cons_succ, i64_w, i32_w]
                rfl
              refine pure_ (i := 25) (N := some 103) (v := ?_) (a' := ?_) #[true, true, true, true, true, true, true, true, true, true, true, true, true, true, true, true, true, true, true, true, true, true, false, false, true, true, false, false] rfl rfl (any_of HT_.out (by kernel_rfl)) (fun _ _ _ h => h) (Or.inl ⟨by rfl, ?_⟩) ?_ ?_
              rotate_left
              · intro w'
                go_simp
                with_reducible rfl
              rotate_left
              · simp only [Act.put, List.setIfInBounds_toArray, List.set_cons_zero, List.set_cons_succ, i64_w, i32_w]
                rfl
              refine take_ (i := 22) (N := some 100) (v := ?_) (a' := ?_) #[true, true, true, true, true, true, true, true, true, true, true, true, true, true, true, true, true, true, true, true, true, true, true, false, true, true, false, false] rfl rfl (take_ofW HT_.out HW_.out (by kernel_rfl)) (fun _ _ _ h => h) (Or.inl ⟨by rfl, ?_⟩) hHeld ?_ ?_
              rotate_left
              · rintro w' ⟨s0, s1, s2, s3⟩
                go_simp
                with_reducible rfl
              rotate_left
              · simp only [Act.put, List.setIfInBounds_toArray, List.set_cons_zero, List.set_cons_succ, i64_w, i32_w]
                rfl
              refine pure_ (i := 23) (N := some 101) (v := ?_) (a' := ?_) #[true, true, true, true, true, true, true, true, true, true, true, true, true, true, true, true, true, true, true, true, true, true, true, true, true, true, false, false] rfl rfl (any_of HT_.out (by kernel_rfl)) (fun _ _ _ h => h) (Or.inl ⟨by rfl, ?_⟩) ?_ ?_
              rotate_left
              · intro w'
                go_simp
                with_reducible rfl
              rotate_left
              · simp only [Act.put, List.setIfInBounds_toArray, List.set_cons_zero, List.set_cons_succ, i64_w, i32_w]
                rfl
              refine pure_ (i := 26) (N := some 104) (v := ?_) (a' := ?_) #[true, true, true, true, true, true, true, true, true, true, true, true, true, true, true, true, true, true, true, true, true, true, true, true, true, true, true, false] rfl rfl (any_of HT_.out (by kernel_rfl)) (fun _ _ _ h => h) (Or.inl ⟨by rfl, ?_⟩) ?_ ?_
              rotate_left
              · intro w'
                go_simp
                with_reducible rfl
              rotate_left
              · simp only [Act.put, List.setIfInBounds_toArray, List.set_cons_zero, List.set_cons_succ, i64_w, i32_w]
                rfl
              refine pure_ (i := 27) (N := some 105) (v := ?_) (a' := ?_) #[true, true, true, true, true, true, true, true, true, true, true, true, true, true, true, true, true, true, true, true, true, true, true, true, true, true, true, true] rfl rfl (any_of HT_.out (by kernel_rfl)) (fun _ _ _ h => h) (Or.inl ⟨by rfl, ?_⟩) ?_ ?_
              rotate_left
              · intro w'
                go_simp
                with_reducible rfl
              rotate_left
              · simp only [Act.put, List.setIfInBounds_toArray, List.set_cons_zero, List.set_cons_succ, i64_w, i32_w]
                rfl
              refine done_ (done_of HT_.out (by kernel_rfl)) ?_
              have hp2 := (blk_cell B15'.out 2).trans (show _ = some (Value.slice AP n0 cP) from rfl)
              clear hHeld
              go_wp2_with fail
              have HB99 := Aside0.mk (Below.refl w9.heap.size w9)
              clear hp2
              go_loopw [109] (fun v109 wc => ∃ (J3 : Int) (k3 : Nat), v109 = .int .i64 J3 ∧ Aside0 (J3 = (k3 : Int)) ∧ Aside0 (k3 ≤ n0) ∧ Aside0 (Below w9.heap.size w9 wc)) (fun v109 _ => n0 - (intOf v109).toNat)
              case atStart => exact ⟨0, 0, rfl, ⟨rfl⟩, ⟨Nat.zero_le _⟩, HB99⟩
              case round =>
                clear HB99
                obtain ⟨J3, k3, rfl, HJ3, HK3, HBW⟩ := hrel
                have hwr3 : wrap64 (J3 + 1) = J3 + 1 := by have := HJ3.out; have := HK3.out; have := HYL.out; have := HN0.out; unfold wrap64; omega
                by_cases hlt3 : k3 < n0
                · have hj3 := HJ3.out
                  have tlt3 : decide (J3 < (n0 : Int)) = true := decide_eq_true (by omega)
                  have p3 : 0 ≤ J3 := by omega
                  have q3 : J3 < (n0 : Int) := by omega
                  have hky : k3 < y0.length := by have := HN0.out; omega
                  obtain ⟨x, hx⟩ : ∃ x, x = (y0[k3]'hky).f1 := ⟨_, rfl⟩
                  have e36 : rd_T36 (y0.map (fun s => (⟨s.f1, false, false⟩ : S36))) (k3 : Int) = ⟨x, false, false⟩ := take_36 _ _ _ (by rw [List.getElem?_map, List.getElem?_eq_getElem hky, hx]; rfl)
                  have e31 : (rd_T31 y0 (k3 : Int)).f1 = x := by rw [take_31 _ _ _ (List.getElem?_eq_getElem hky), hx]
                  obtain ⟨ad36, ea36, h360, h361, h362⟩ := at_T36 HP9.out J3 p3 (by rw [List.length_map]; omega)
                  obtain ⟨ad31, ea31, _, hx31⟩ := at_T31 (Kd.R_reads' (show Kd.R k31 31 w9 w.heap.size (fun _ => True) (.slice A0_ y0.length q0_) y0 by rw [← HN0.out]; exact M9.out.r0)).2.2 J3 p3 (by omega)
                  cases ea36
                  cases ea31
                  obtain rfl : J3 = (k3 : Int) := hj3
                  rw [e36] at h360 h361 h362
                  rw [e31] at hx31
                  rw [Int.toNat_natCast] at h360 h361 h362 hx31
                  replace h360 := cell_on HBW.out h360
                  replace h361 := cell_on HBW.out h361
                  replace h362 := cell_on HBW.out h362
                  replace hx31 := cell_on HBW.out hx31
                  clear hx e36 e31 hky
                  replace p3 := eq_true p3
                  replace q3 := eq_true q3
                  have hu39 := Tryd.underlying39
                  go_upto_region 32 with (first | ((with_reducible refine gate_dst (N := 18) rfl ?_); refine box_event ?hg (N := 18) ?hd (cs := #[.int .i64 0, .bool false, .bool false]) (t := 39) ?hr ?_; (case hd => rfl); (case hg => rfl); (case hr => first | (go_simp; done) | (go_simp; rfl)); intro g18 hg wb hbox hb; have GE8 := Aside0.mk hg; have BK := Aside0.mk hbox; have HBX := Aside0.mk hb; clear hbox hb hg; have hz0 : wb.cell? ⟨g18, 0, none⟩ = some (.int .i64 0) := (blk_cell BK.out 0).trans rfl; have hf0 := blk_frozen BK.out 0; have hz1 : wb.cell? ⟨g18, 1, none⟩ = some (.bool false) := (blk_cell BK.out 1).trans rfl; have hf1 := blk_frozen BK.out 1; have hz2 : wb.cell? ⟨g18, 2, none⟩ = some (.bool false) := (blk_cell BK.out 2).trans rfl; have hf2 := blk_frozen BK.out 2) | fail)
                  have hgE : wr.heap.size ≤ g18 := by rw [GE8.out]; exact Nat.le_refl _
                  obtain ⟨wc8, hw8⟩ : ∃ W, W = ((wb.setCell ⟨g18, 0, none⟩ (.int .i64 x)).setCell ⟨g18, 1, none⟩ (.bool false)).setCell ⟨g18, 2, none⟩ (.bool false) := ⟨_, rfl⟩
                  have HB38 := Aside0.mk (show Below wr.heap.size wr wc8 by rw [hw8]; exact below_set (below_set (below_set HBX.out hgE) hgE) hgE)
                  have B18 := Aside0.mk (show wc8.heap[g18]? = some (.cells #[.int .i64 x, .bool false, .bool false] 39 (0, 0)) by rw [hw8]; exact (blk_set (blk_set (blk_set BK.out 0 _) 1 _) 2 _).trans rfl)
                  replace hx31 := cell_on HB38.out hx31
                  have HBW1 := Aside0.mk (below_step HBW.out HB38.out)
                  rw [← hw8]
                  clear hw8 HBX BK HB38 HBW hgE GE8 h360 h361 h362 hz0 hf0 hz1 hf1 hz2 hf2
                  refine start_ (n := 16) (S := (fun w' => w'.cell? ⟨g18, 0, none⟩ = some (.int .i64 x) ∧ w'.cell? ⟨g18, 1, none⟩ = some (.bool false) ∧ w'.cell? ⟨g18, 2, none⟩ = some (.bool false) ∧ w'.cell? ⟨(ad31.add (k3 * 2)).block, (ad31.add (k3 * 2)).off + 1, none⟩ = some (.int .i64 x))) (ds := []) #[false, false, false, false, false, false, false, false, false, false, false, false, false, false, false, false] (by kernel_rfl) rfl rfl ⟨(blk_cell B18.out 0).trans rfl, (blk_cell B18.out 1).trans rfl, (blk_cell B18.out 2).trans rfl, hx31⟩ (fun hHeld => ?_)
                  refine with_tabW a32_tab a32_bits (fun HT_ HW_ => ?_)
                  have HBW' := Aside0.mk (below_drew HBW1.out)
                  clear HBW1
                  generalize wc8.drew = wc9 at HBW' hHeld ⊢
                  refine pure_ (i := 0) (N := some 114) (v := ?_) (a' := ?_) #[true, false, false, false, false, false, false, false, false, false, false, false, false, false, false, false] rfl rfl (any_of HT_.out (by kernel_rfl)) (fun _ _ _ h => h) (Or.inl ⟨by rfl, ?_⟩) ?_ ?_
                  rotate_left
                  · intro w'
                    go_simp
                    with_reducible rfl
                  rotate_left
                  · simp only [Act.put, List.setIfInBounds_toArray, List.set_cons_zero, List.set_cons_succ, i64_w, i32_w]
                    rfl
                  refine take_ (i := 1) (N := some 115) (v := ?_) (a' := ?_) #[true, true, false, false, false, false, false, false, false, false, false, false, false, false, false, false] rfl rfl (take_ofW HT_.out HW_.out (by kernel_rfl)) (fun _ _ _ h => h) (Or.inl ⟨by rfl, ?_⟩) hHeld ?_ ?_
                  rotate_left
                  · rintro w' ⟨s0, s1, s2, s3⟩
                    go_simp
                    with_reducible rfl
                  rotate_left
                  · simp only [Act.put, List.setIfInBounds_toArray, List.set_cons_zero, List.set_cons_succ, i64_w, i32_w]
                    rfl
                  refine pure_ (i := 2) (N := some 116) (v := ?_) (a' := ?_) #[true, true, true, false, false, false, false, false, false, false, false, false, false, false, false, false] rfl rfl (any_of HT_.out (by kernel_rfl)) (fun _ _ _ h => h) (Or.inl ⟨by rfl, ?_⟩) ?_ ?_
                  rotate_left
                  · intro w'
                    go_simp
                    with_reducible rfl
                  rotate_left
                  · simp only [Act.put, List.setIfInBounds_toArray, List.set_cons_zero, List.set_cons_succ, i64_w, i32_w]
                    rfl
                  refine pure_ (i := 3) (N := some 117) (v := ?_) (a' := ?_) #[true, true, true, true, false, false, false, false, false, false, false, false, false, false, false, false] rfl rfl (any_of HT_.out (by kernel_rfl)) (fun _ _ _ h => h) (Or.inl ⟨by rfl, ?_⟩) ?_ ?_
                  rotate_left
                  · intro w'
                    go_simp
                    with_reducible rfl
                  rotate_left
                  · simp only [Act.put, List.setIfInBounds_toArray, List.set_cons_zero, List.set_cons_succ, i64_w, i32_w]
                    rfl
                  refine take_ (i := 4) (N := some 118) (v := ?_) (a' := ?_) #[true, true, true, true, true, false, false, false, false, false, false, false, false, false, false, false] rfl rfl (take_ofW HT_.out HW_.out (by kernel_rfl)) (fun _ _ _ h => h) (Or.inl ⟨by rfl, ?_⟩) hHeld ?_ ?_
                  rotate_left
                  · rintro w' ⟨s0, s1, s2, s3⟩
                    go_simp
                    with_reducible rfl
                  rotate_left
                  · simp only [Act.put, List.setIfInBounds_toArray, List.set_cons_zero, List.set_cons_succ, i64_w, i32_w]
                    rfl
                  refine pure_ (i := 5) (N := some 119) (v := ?_) (a' := ?_) #[true, true, true, true, true, true, false, false, false, false, false, false, false, false, false, false] rfl rfl (any_of HT_.out (by kernel_rfl)) (fun _ _ _ h => h) (Or.inl ⟨by rfl, ?_⟩) ?_ ?_
                  rotate_left
                  · intro w'
                    go_simp
                    with_reducible rfl
                  rotate_left
                  · simp only [Act.put, List.setIfInBounds_toArray, List.set_cons_zero, List.set_cons_succ, i64_w, i32_w]
                    rfl
                  refine pure_ (i := 6) (N := some 120) (v := ?_) (a' := ?_) #[true, true, true, true, true, true, true, false, false, false, false, false, false, false, false, false] rfl rfl (any_of HT_.out (by kernel_rfl)) (fun _ _ _ h => h) (Or.inl ⟨by rfl, ?_⟩) ?_ ?_
                  rotate_left
                  · intro w'
                    go_simp
                    with_reducible rfl
                  rotate_left
                  · simp only [Act.put, List.setIfInBounds_toArray, List.set_cons_zero, List.set_cons_succ, i64_w, i32_w]
                    rfl
                  refine pure_ (i := 7) (N := some 121) (v := ?_) (a' := ?_) #[true, true, true, true, true, true, true, true, false, false, false, false, false, false, false, false] rfl rfl (any_of HT_.out (by kernel_rfl)) (fun _ _ _ h => h) (Or.inl ⟨by rfl, ?_⟩) ?_ ?_
                  rotate_left
                  · intro w'
                    go_simp
                    with_reducible rfl
                  rotate_left
                  · simp only [Act.put, List.setIfInBounds_toArray, List.set_cons_zero, List.set_cons_succ, i64_w, i32_w]
                    rfl
                  refine pure_ (i := 9) (N := some 123) (v := ?_) (a' := ?_) #[true, true, true, true, true, true, true, true, false, true, false, false, false, false, false, false] rfl rfl (any_of HT_.out (by kernel_rfl)) (fun _ _ _ h => h) (Or.inl ⟨by rfl, ?_⟩) ?_ ?_
                  rotate_left
                  · intro w'
                    go_simp
                    with_reducible rfl
                  rotate_left
                  · simp only [Act.put, List.setIfInBounds_toArray, List.set_cons_zero, List.set_cons_succ, i64_w, i32_w]
                    rfl
                  refine pure_ (i := 10) (N := some 124) (v := ?_) (a' := ?_) #[true, true, true, true, true, true, true, true, false, true, true, false, false, false, false, false] rfl rfl (any_of HT_.out (by kernel_rfl)) (fun _ _ _ h => h) (Or.inl ⟨by rfl, ?_⟩) ?_ ?_
                  rotate_left
                  · intro w'
                    go_simp
                    with_reducible rfl
                  rotate_left
                  · simp only [Act.put, List.setIfInBounds_toArray, List.set_cons_zero, List.set_cons_succ, i64_w, i32_w]
                    rfl
                  refine pure_ (i := 11) (N := some 125) (v := ?_) (a' := ?_) #[true, true, true, true, true, true, true, true, false, true, true, true, false, false, false, false] rfl rfl (any_of HT_.out (by kernel_rfl)) (fun _ _ _ h => h) (Or.inl ⟨by rfl, ?_⟩) ?_ ?_
                  rotate_left
                  · intro w'
                    go_simp
                    with_reducible rfl
                  rotate_left
                  · simp only [Act.put, List.setIfInBounds_toArray, List.set_cons_zero, List.set_cons_succ, i64_w, i32_w]
                    rfl
                  refine pure_ (i := 12) (N := some 126) (v := ?_) (a' := ?_) #[true, true, true, true, true, true, true, true, false, true, true, true, true, false, false, false] rfl rfl (any_of HT_.out (by kernel_rfl)) (fun _ _ _ h => h) (Or.inl ⟨by rfl, ?_⟩) ?_ ?_
                  rotate_left
                  · intro w'
                    go_simp
                    with_reducible rfl
                  rotate_left
                  · simp only [Act.put, List.setIfInBounds_toArray, List.set_cons_zero, List.set_cons_succ, i64_w, i32_w]
                    rfl
                  refine take_ (i := 8) (N := some 122) (v := ?_) (a' := ?_) #[true, true, true, true, true, true, true, true, true, true, true, true, true, false, false, false] rfl rfl (take_ofW HT_.out HW_.out (by kernel_rfl)) (fun _ _ _ h => h) (Or.inl ⟨by rfl, ?_⟩) hHeld ?_ ?_
                  rotate_left
                  · rintro w' ⟨s0, s1, s2, s3⟩
                    go_simp
                    with_reducible rfl
                  rotate_left
                  · simp only [Act.put, List.setIfInBounds_toArray, List.set_cons_zero, List.set_cons_succ, i64_w, i32_w]
                    rfl
                  refine take_ (i := 13) (N := some 127) (v := ?_) (a' := ?_) #[true, true, true, true, true, true, true, true, true, true, true, true, true, true, false, false] rfl rfl (take_ofW HT_.out HW_.out (by kernel_rfl)) (fun _ _ _ h => h) (Or.inl ⟨by rfl, ?_⟩) hHeld ?_ ?_
                  rotate_left
                  · rintro w' ⟨s0, s1, s2, s3⟩
                    go_simp
                    with_reducible rfl
                  rotate_left
                  · simp only [Act.put, List.setIfInBounds_toArray, List.set_cons_zero, List.set_cons_succ, i64_w, i32_w]
                    rfl
                  refine pure_ (i := 14) (N := some 128) (v := ?_) (a' := ?_) #[true, true, true, true, true, true, true, true, true, true, true, true, true, true, true, false] rfl rfl (any_of HT_.out (by kernel_rfl)) (fun _ _ _ h => h) (Or.inl ⟨by rfl, ?_⟩) ?_ ?_
                  rotate_left
                  · intro w'
                    go_simp
                    with_reducible rfl
                  rotate_left
                  · simp only [Act.put, List.setIfInBounds_toArray, List.set_cons_zero, List.set_cons_succ, i64_w, i32_w]
                    rfl
                  refine pure_ (i := 15) (N := some 129) (v := ?_) (a' := ?_) #[true, true, true, true, true, true, true, true, true, true, true, true, true, true, true, true] rfl rfl (any_of HT_.out (by kernel_rfl)) (fun _ _ _ h => h) (Or.inl ⟨by rfl, ?_⟩) ?_ ?_
                  rotate_left
                  · intro w'
                    go_simp
                    with_reducible rfl
                  rotate_left
                  · simp only [Act.put, List.setIfInBounds_toArray, List.set_cons_zero, List.set_cons_succ, i64_w, i32_w]
                    rfl
                  refine done_ (done_of HT_.out (by kernel_rfl)) ?_
                  clear hHeld hx31
                  go_wp2_with fail
                  go_roundw
                  case rel => exact ⟨wrap64 ((k3 : Int) + 1), k3 + 1, rfl, ⟨by rw [hwr3]; rfl⟩, ⟨by omega⟩, HBW'⟩
                  case measure =>
                    rw [hwr3]
                    simp [intOf]
                    omega
                · have tlt3 : decide (J3 < (n0 : Int)) = false := decide_eq_false (by have := HJ3.out; omega)
                  have MZ := Aside0.mk (M9.out.on HBW.out)
                  go_wp2_with fail
                  go_roundw
                  case rel => exact ⟨1, _, by first | rfl | (simp [wrap64]; done), rfl, ⟨Or.inr (Or.inl ⟨rfl, by rw [HO1.out, if_pos hp, HOUT.out]⟩)⟩, MZ⟩
                  case measure => simp [intOf]
            · obtain rfl : n0 = 0 := by omega
              go_wp2_with fail
              go_roundw
              case rel => exact ⟨1, _, by first | rfl | (simp [wrap64]; done), rfl, ⟨Or.inr (Or.inl ⟨rfl, by rw [HO1.out, if_neg hp, HOUT.out]⟩)⟩, HM⟩
              case measure => simp [intOf]
          · clear HC
            have so : out.size ≤ 700 := by
              rw [hout]
              exact HSO.out
            have st : t1.size ≤ 700 := HS1.out
            have HOUT := Aside0.mk hout
            have hix := ia1
            have his := is1
            have kb_ := fun (s : ByteArray) (W : World) => print_bytes (P := Tryd.prog) 9 33 5 Tryd.underlying9 Tryd.underlying33 Tryd.underlying5 s W
            clear hout
            by_cases hp : 0 < n1
            · have tz : ((n1 : Int) == 0) = false := by simp; omega
              have HRD := Aside0.mk (HRD1.out hp)
              go_wp2_with fail
              refine (show Calls Tryd.prog 6 #[.int .i64 0, .slice A1_ n1 q1_] wr fun e w' => e = .returned (.string t1) ∧ Below wr.heap.size wr w' by
                have hC := (Kd.R_reads' (show Kd.R k31 31 wr w.heap.size (fun _ => True) (.slice A1_ y1.length q1_) y1 by rw [← HN1.out]; exact HM.out.r1)).2.2
                have h_ := make_ 0 (by decide) A1_ q1_ y1 wr hC (by have := HYL.out; omega) HYI.out.2.m (HLD.out.below HM.out.b)
                rw [← HN1.out, HMK1.out] at h_
                exact h_).mono ?_
              rintro e w5 ⟨rfl, hb5⟩
              have M5 := Aside0.mk (HM.out.on hb5)
              clear hb5 HM
              go_wp2_with fail
              with_reducible refine Ext.calls_len (m := (bytesOf t1).length) (k := t1.size) (bytesOf_length _) rfl ?_
              refine (spec_ReadSequence.calls _ _ (bytesOf t1) _ _ _ _ _ _ _ _ _ (Ext.C_bytes _ _ t1 (by omega)) (Ext.bytes_room _ _ _) HRD.out).mono ?_
              rintro e w6 ⟨vP, vI, v3, rfl, hP, hI, h3, hb6⟩
              have M6 := Aside0.mk (M5.out.on (below_step (Ext.below_bytes (Below.refl _ _)) hb6))
              obtain ⟨AP, cP, eP⟩ : ∃ A c, vP = .slice A n1 c := by obtain ⟨A, c, e⟩ := Kd.R_slice hP; exact ⟨A, c, by rw [e, List.length_map, HN1.out]⟩
              obtain ⟨AI, cI, eI⟩ : ∃ A c, vI = .slice A 0 c := Kd.R_slice hI
              obtain ⟨A3, c3, e3⟩ : ∃ A c, v3 = .slice A 0 c := Kd.R_slice h3
              subst eP eI e3
              have HP6 := Aside0.mk (show Kd.C k36 w6 AP (y1.map (fun s => (⟨s.f1, false, false⟩ : S36))).length (y1.map (fun s => (⟨s.f1, false, false⟩ : S36))) by have h := (Kd.R_reads' hP).2.2; first | exact h | (rw [List.length_map, ← HN1.out]; exact h))
              clear hP hI h3 hb6 M5
              go_upto_region 27 with (first | ((with_reducible refine gate_dst (N := 15) rfl ?_); refine box_event ?hg (N := 15) ?hd (cs := #[.int .i64 0, .int .u8 0, .slice none 0 0, .slice none 0 0, .int .u8 0, .slice none 0 0, .bool false]) (t := 35) ?hr ?_; (case hd => rfl); (case hg => rfl); (case hr => first | (go_simp; done) | (go_simp; rfl)); intro g15 hg wb hbox hb; have GE8 := Aside0.mk hg; have BK := Aside0.mk hbox; have HBX := Aside0.mk hb; clear hbox hb hg; have hz0 : wb.cell? ⟨g15, 0, none⟩ = some (.int .i64 0) := (blk_cell BK.out 0).trans rfl; have hf0 := blk_frozen BK.out 0; have hz1 : wb.cell? ⟨g15, 1, none⟩ = some (.int .u8 0) := (blk_cell BK.out 1).trans rfl; have hf1 := blk_frozen BK.out 1; have hz2 : wb.cell? ⟨g15, 2, none⟩ = some (.slice none 0 0) := (blk_cell BK.out 2).trans rfl; have hf2 := blk_frozen BK.out 2; have hz3 : wb.cell? ⟨g15, 3, none⟩ = some (.slice none 0 0) := (blk_cell BK.out 3).trans rfl; have hf3 := blk_frozen BK.out 3; have hz4 : wb.cell? ⟨g15, 4, none⟩ = some (.int .u8 0) := (blk_cell BK.out 4).trans rfl; have hf4 := blk_frozen BK.out 4; have hz5 : wb.cell? ⟨g15, 5, none⟩ = some (.slice none 0 0) := (blk_cell BK.out 5).trans rfl; have hf5 := blk_frozen BK.out 5; have hz6 : wb.cell? ⟨g15, 6, none⟩ = some (.bool false) := (blk_cell BK.out 6).trans rfl; have hf6 := blk_frozen BK.out 6) | fail)
              have hgE : w6.heap.size ≤ g15 := by rw [GE8.out]; exact Nat.le_refl _
              obtain ⟨w8, hw8⟩ : ∃ W, W = (((((((wb.setCell ⟨g15, 0, none⟩ (.int .i64 1)).setCell ⟨g15, 1, none⟩ (.int .u8 63)).setCell ⟨g15, 2, none⟩ (.slice AP n1 cP)).setCell ⟨g15, 3, none⟩ (.slice AI 0 cI)).setCell ⟨g15, 4, none⟩ (.int .u8 104)).setCell ⟨g15, 5, none⟩ (.slice A3 0 c3)).setCell ⟨g15, 6, none⟩ (.bool false)) := ⟨_, rfl⟩
              have HB68 := Aside0.mk (show Below w6.heap.size w6 w8 by rw [hw8]; exact (below_set (below_set (below_set (below_set (below_set (below_set (below_set HBX.out hgE) hgE) hgE) hgE) hgE) hgE) hgE))
              have B15 := Aside0.mk (show w8.heap[g15]? = some (.cells #[.int .i64 1, .int .u8 63, .slice AP n1 cP, .slice AI 0 cI, .int .u8 104, .slice A3 0 c3, .bool false] 35 (0, 0)) by rw [hw8]; exact (blk_set (blk_set (blk_set (blk_set (blk_set (blk_set (blk_set BK.out 0 _) 1 _) 2 _) 3 _) 4 _) 5 _) 6 _).trans rfl)
              have M8 := Aside0.mk (M6.out.on HB68.out)
              have HP8 := Aside0.mk (Kd.C_below HP6.out HB68.out)
              rw [← hw8]
              clear hw8 HBX BK HB68 HP6 M6 hgE GE8 hz0 hf0 hz1 hf1 hz2 hf2 hz3 hf3 hz4 hf4 hz5 hf5 hz6 hf6
              refine start_ (n := 28) (S := (fun w' => w'.cell? ⟨g15, 0, none⟩ = some (.int .i64 1) ∧ w'.cell? ⟨g15, 1, none⟩ = some (.int .u8 63) ∧ w'.cell? ⟨g15, 4, none⟩ = some (.int .u8 104) ∧ w'.cell? ⟨g15, 2, none⟩ = some (.slice AP n1 cP))) (ds := []) #[false, false, false, false, false, false, false, false, false, false, false, false, false, false, false, false, false, false, false, false, false, false, false, false, false, false, false, false] (by kernel_rfl) rfl rfl ⟨(blk_cell B15.out 0).trans rfl, (blk_cell B15.out 1).trans rfl, (blk_cell B15.out 4).trans rfl, (blk_cell B15.out 2).trans rfl⟩ (fun hHeld => ?_)
              refine with_tabW a27_tab a27_bits (fun HT_ HW_ => ?_)
              have M9 := Aside0.mk (M8.out.on (below_drew (Below.refl _ _)))
              have B15' := Aside0.mk (((below_drew (Below.refl w8.heap.size w8)).block _ (blk_lt B15.out)).trans B15.out)
              have HP9 := Aside0.mk (Kd.C_below HP8.out (below_drew (Below.refl _ _)))
              clear M8 B15 HP8
              generalize w8.drew = w9 at M9 B15' HP9 hHeld ⊢
              refine pure_ (i := 0) (N := some 78) (v := ?_) (a' := ?_) #[true, false, false, false, false, false, false, false, false, false, false, false, false, false, false, false, false, false, false, false, false, false, false, false, false, false, false, false] rfl rfl (any_of HT_.out (by kernel_rfl)) (fun _ _ _ h => h) (Or.inl ⟨by rfl, ?_⟩) ?_ ?_
              rotate_left
              · intro w'
                go_simp
                with_reducible rfl
              rotate_left
              · simp only [Act.put, List.setIfInBounds_toArray, List.set_cons_zero, List.set_cons_succ, i64_w, i32_w]
                rfl
              refine pure_ (i := 1) (N := some 79) (v := ?_) (a' := ?_) #[true, true, false, false, false, false, false, false, false, false, false, false, false, false, false, false, false, false, false, false, false, false, false, false, false, false, false, false] rfl rfl (any_of HT_.out (by kernel_rfl)) (fun _ _ _ h => h) (Or.inl ⟨by rfl, ?_⟩) ?_ ?_
              rotate_left
              · intro w'
                go_simp
                with_reducible rfl
              rotate_left
              · simp only [Act.put, List.setIfInBounds_toArray, List.set_cons_zero, List.set_cons_succ, i64_w, i32_w]
                rfl
              refine pure_ (i := 2) (N := some 80) (v := ?_) (a' := ?_) #[true, true, true, false, false, false, false, false, false, false, false, false, false, false, false, false, false, false, false, false, false, false, false, false, false, false, false, false] rfl rfl (any_of HT_.out (by kernel_rfl)) (fun _ _ _ h => h) (Or.inl ⟨by rfl, ?_⟩) ?_ ?_
              rotate_left
              · intro w'
                go_simp
                with_reducible rfl
              rotate_left
              · simp only [Act.put, List.setIfInBounds_toArray, List.set_cons_zero, List.set_cons_succ, i64_w, i32_w]
                rfl
              refine pure_ (i := 3) (N := some 81) (v := ?_) (a' := ?_) #[true, true, true, true, false, false, false, false, false, false, false, false, false, false, false, false, false, false, false, false, false, false, false, false, false, false, false, false] rfl rfl (any_of HT_.out (by kernel_rfl)) (fun _ _ _ h => h) (Or.inl ⟨by rfl, ?_⟩) ?_ ?_
              rotate_left
              · intro w'
                go_simp
                with_reducible rfl
              rotate_left
              · simp only [Act.put, List.setIfInBounds_toArray, List.set_cons_zero, List.set_cons_succ, i64_w, i32_w]
                rfl
              refine take_ (i := 4) (N := some 82) (v := ?_) (a' := ?_) #[true, true, true, true, true, false, false, false, false, false, false, false, false, false, false, false, false, false, false, false, false, false, false, false, false, false, false, false] rfl rfl (take_ofW HT_.out HW_.out (by kernel_rfl)) (fun _ _ _ h => h) (Or.inl ⟨by rfl, ?_⟩) hHeld ?_ ?_
              rotate_left
              · rintro w' ⟨s0, s1, s2, s3⟩
                go_simp
                with_reducible rfl
              rotate_left
              · simp only [Act.put, List.setIfInBounds_toArray, List.set_cons_zero, List.set_cons_succ, i64_w, i32_w]
                rfl
              refine pure_ (i := 5) (N := some 83) (v := ?_) (a' := ?_) #[true, true, true, true, true, true, false, false, false, false, false, false, false, false, false, false, false, false, false, false, false, false, false, false, false, false, false, false] rfl rfl (any_of HT_.out (by kernel_rfl)) (fun _ _ _ h => h) (Or.inl ⟨by rfl, ?_⟩) ?_ ?_
              rotate_left
              · intro w'
                go_simp
                with_reducible rfl
              rotate_left
              · simp only [Act.put, List.setIfInBounds_toArray, List.set_cons_zero, List.set_cons_succ, i64_w, i32_w]
                rfl
              refine pure_ (i := 6) (N := some 84) (v := ?_) (a' := ?_) #[true, true, true, true, true, true, true, false, false, false, false, false, false, false, false, false, false, false, false, false, false, false, false, false, false, false, false, false] rfl rfl (any_of HT_.out (by kernel_rfl)) (fun _ _ _ h => h) (Or.inl ⟨by rfl, ?_⟩) ?_ ?_
              rotate_left
              · intro w'
                go_simp
                with_reducible rfl
              rotate_left
              · simp only [Act.put, List.setIfInBounds_toArray, List.set_cons_zero, List.set_cons_succ, i64_w, i32_w]
                rfl
              refine pure_ (i := 7) (N := some 85) (v := ?_) (a' := ?_) #[true, true, true, true, true, true, true, true, false, false, false, false, false, false, false, false, false, false, false, false, false, false, false, false, false, false, false, false] rfl rfl (any_of HT_.out (by kernel_rfl)) (fun _ _ _ h => h) (Or.inl ⟨by rfl, ?_⟩) ?_ ?_
              rotate_left
              · intro w'
                go_simp
                with_reducible rfl
              rotate_left
              · simp only [Act.put, List.setIfInBounds_toArray, List.set_cons_zero, List.set_cons_succ, i64_w, i32_w]
                rfl
              refine pure_ (i := 8) (N := some 86) (v := ?_) (a' := ?_) #[true, true, true, true, true, true, true, true, true, false, false, false, false, false, false, false, false, false, false, false, false, false, false, false, false, false, false, false] rfl rfl (any_of HT_.out (by kernel_rfl)) (fun _ _ _ h => h) (Or.inl ⟨by rfl, ?_⟩) ?_ ?_
              rotate_left
              · intro w'
                go_simp
                with_reducible rfl
              rotate_left
              · simp only [Act.put, List.setIfInBounds_toArray, List.set_cons_zero, List.set_cons_succ, i64_w, i32_w]
                rfl
              refine pure_ (i := 10) (N := some 88) (v := ?_) (a' := ?_) #[true, true, true, true, true, true, true, true, true, false, true, false, false, false, false, false, false, false, false, false, false, false, false, false, false, false, false, false] rfl rfl (any_of HT_.out (by kernel_rfl)) (fun _ _ _ h => h) (Or.inl ⟨by rfl, ?_⟩) ?_ ?_
              rotate_left
              · intro w'
                go_simp
                with_reducible rfl
              rotate_left
              · simp only [Act.put, List.setIfInBounds_toArray, List.set_cons_zero, List.set_cons_succ, i64_w, i32_w]
                rfl
              refine pure_ (i := 11) (N := some 89) (v := ?_) (a' := ?_) #[true, true, true, true, true, true, true, true, true, false, true, true, false, false, false, false, false, false, false, false, false, false, false, false, false, false, false, false] rfl rfl (any_of HT_.out (by kernel_rfl)) (fun _ _ _ h => h) (Or.inl ⟨by rfl, ?_⟩) ?_ ?_
              rotate_left
              · intro w'
                go_simp
                with_reducible rfl
              rotate_left
              · simp only [Act.put, List.setIfInBounds_toArray, List.set_cons_zero, List.set_cons_succ, i64_w, i32_w]
                rfl
              refine take_ (i := 9) (N := some 87) (v := ?_) (a' := ?_) #[true, true, true, true, true, true, true, true, true, true, true, true, false, false, false, false, false, false, false, false, false, false, false, false, false, false, false, false] rfl rfl (take_ofW HT_.out HW_.out (by kernel_rfl)) (fun _ _ _ h => h) (Or.inl ⟨by rfl, ?_⟩) hHeld ?_ ?_
              rotate_left
              · rintro w' ⟨s0, s1, s2, s3⟩
                go_simp
                with_reducible rfl
              rotate_left
              · simp only [Act.put, List.setIfInBounds_toArray, List.set_cons_zero, List.set_cons_succ, i64_w, i32_w]
                rfl
              refine pure_ (i := 12) (N := some 90) (v := ?_) (a' := ?_) #[true, true, true, true, true, true, true, true, true, true, true, true, true, false, false, false, false, false, false, false, false, false, false, false, false, false, false, false] rfl rfl (any_of HT_.out (by kernel_rfl)) (fun _ _ _ h => h) (Or.inl ⟨by rfl, ?_⟩) ?_ ?_
              rotate_left
              · intro w'
                go_simp
                with_reducible rfl
              rotate_left
              · simp only [Act.put, List.setIfInBounds_toArray, List.set_cons_zero, List.set_cons_succ, i64_w, i32_w]
                rfl
              refine pure_ (i := 13) (N := some 91) (v := ?_) (a' := ?_) #[true, true, true, true, true, true, true, true, true, true, true, true, true, true, false, false, false, false, false, false, false, false, false, false, false, false, false, false] rfl rfl (any_of HT_.out (by kernel_rfl)) (fun _ _ _ h => h) (Or.inl ⟨by rfl, ?_⟩) ?_ ?_
              rotate_left
              · intro w'
                go_simp
                with_reducible rfl
              rotate_left
              · simp only [Act.put, List.setIfInBounds_toArray, List.set_cons_zero, List.set_cons_succ, i64_w, i32_w]
                rfl
              refine pure_ (i := 14) (N := some 92) (v := ?_) (a' := ?_) #[true, true, true, true, true, true, true, true, true, true, true, true, true, true, true, false, false, false, false, false, false, false, false, false, false, false, false, false] rfl rfl (any_of HT_.out (by kernel_rfl)) (fun _ _ _ h => h) (Or.inl ⟨by rfl, ?_⟩) ?_ ?_
              rotate_left
              · intro w'
                go_simp
                with_reducible rfl
              rotate_left
              · simp only [Act.put, List.setIfInBounds_toArray, List.set_cons_zero, List.set_cons_succ, i64_w, i32_w]
                rfl
              refine pure_ (i := 15) (N := some 93) (v := ?_) (a' := ?_) #[true, true, true, true, true, true, true, true, true, true, true, true, true, true, true, true, false, false, false, false, false, false, false, false, false, false, false, false] rfl rfl (any_of HT_.out (by kernel_rfl)) (fun _ _ _ h => h) (Or.inl ⟨by rfl, ?_⟩) ?_ ?_
              rotate_left
              · intro w'
                go_simp
                with_reducible rfl
              rotate_left
              · simp only [Act.put, List.setIfInBounds_toArray, List.set_cons_zero, List.set_cons_succ, i64_w, i32_w]
                rfl
              refine pure_ (i := 17) (N := some 95) (v := ?_) (a' := ?_) #[true, true, true, true, true, true, true, true, true, true, true, true, true, true, true, true, false, true, false, false, false, false, false, false, false, false, false, false] rfl rfl (any_of HT_.out (by kernel_rfl)) (fun _ _ _ h => h) (Or.inl ⟨by rfl, ?_⟩) ?_ ?_
              rotate_left
              · intro w'
                go_simp
                with_reducible rfl
              rotate_left
              · simp only [Act.put, List.setIfInBounds_toArray, List.set_cons_zero, List.set_cons_succ, i64_w, i32_w]
                rfl
              refine take_ (i := 16) (N := some 94) (v := ?_) (a' := ?_) #[true, true, true, true, true, true, true, true, true, true, true, true, true, true, true, true, true, true, false, false, false, false, false, false, false, false, false, false] rfl rfl (take_ofW HT_.out HW_.out (by kernel_rfl)) (fun _ _ _ h => h) (Or.inl ⟨by rfl, ?_⟩) hHeld ?_ ?_
              rotate_left
              · rintro w' ⟨s0, s1, s2, s3⟩
                go_simp
                with_reducible rfl
              rotate_left
              · simp only [Act.put, List.setIfInBounds_toArray, List.set_cons_zero, List.set_cons_succ, i64_w, i32_w]
                rfl
              refine pure_ (i := 18) (N := some 96) (v := ?_) (a' := ?_) #[true, true, true, true, true, true, true, true, true, true, true, true, true, true, true, true, true, true, true, false, false, false, false, false, false, false, false, false] rfl rfl (any_of HT_.out (by kernel_rfl)) (fun _ _ _ h => h) (Or.inl ⟨by rfl, ?_⟩) ?_ ?_
              rotate_left
              · intro w'
                go_simp
                with_reducible rfl
              rotate_left
              · simp only [Act.put, List.setIfInBounds_toArray, List.set_cons_zero, List.set_cons_succ, i64_w, i32_w]
                rfl
              refine pure_ (i := 19) (N := some 97) (v := ?_) (a' := ?_) #[true, true, true, true, true, true, true, true, true, true, true, true, true, true, true, true, true, true, true, true, false, false, false, false, false, false, false, false] rfl rfl (any_of HT_.out (by kernel_rfl)) (fun _ _ _ h => h) (Or.inl ⟨by rfl, ?_⟩) ?_ ?_
              rotate_left
              · intro w'
                go_simp
                with_reducible rfl
              rotate_left
              · simp only [Act.put, List.setIfInBounds_toArray, List.set_cons_zero, List.set_cons_succ, i64_w, i32_w]
                rfl
              refine pure_ (i := 20) (N := some 98) (v := ?_) (a' := ?_) #[true, true, true, true, true, true, true, true, true, true, true, true, true, true, true, true, true, true, true, true, true, false, false, false, false, false, false, false] rfl rfl (any_of HT_.out (by kernel_rfl)) (fun _ _ _ h => h) (Or.inl ⟨by rfl, ?_⟩) ?_ ?_
              rotate_left
              · intro w'
                go_simp
                with_reducible rfl
              rotate_left
              · simp only [Act.put, List.setIfInBounds_toArray, List.set_cons_zero, List.set_cons_succ, i64_w, i32_w]
                rfl
              refine pure_ (i := 21) (N := some 99) (v := ?_) (a' := ?_) #[true, true, true, true, true, true, true, true, true, true, true, true, true, true, true, true, true, true, true, true, true, true, false, false, false, false, false, false] rfl rfl (any_of HT_.out (by kernel_rfl)) (fun _ _ _ h => h) (Or.inl ⟨by rfl, ?_⟩) ?_ ?_
              rotate_left
              · intro w'
                go_simp
                with_reducible rfl
              rotate_left
              · simp only [Act.put, List.setIfInBounds_toArray, List.set_cons_zero, List.set_cons_succ, i64_w, i32_w]
                rfl
              refine pure_ (i := 24) (N := some 102) (v := ?_) (a' := ?_) #[true, true, true, true, true, true, true, true, true, true, true, true, true, true, true, true, true, true, true, true, true, true, false, false, true, false, false, false] rfl rfl (any_of HT_.out (by kernel_rfl)) (fun _ _ _ h => h) (Or.inl ⟨by rfl, ?_⟩) ?_ ?_
              rotate_left
              · intro w'
                go_simp
                with_reducible rfl
              rotate_left
              · simp only [Act.put, List.setIfInBounds_toArray, List.set_cons_zero, List.set_cons_succ, i64_w, i32_w]
                rfl
              refine pure_ (i := 25) (N := some 103) (v := ?_) (a' := ?_) #[true, true, true, true, true, true, true, true, true, true, true, true, true, true, true, true, true, true, true, true, true, true, false, false, true, true, false, false] rfl rfl (any_of HT_.out (by kernel_rfl)) (fun _ _ _ h => h) (Or.inl ⟨by rfl, ?_⟩) ?_ ?_
              rotate_left
              · intro w'
                go_simp
                with_reducible rfl
              rotate_left
              · simp only [Act.put, List.setIfInBounds_toArray, List.set_cons_zero, List.set_cons_succ, i64_w, i32_w]
                rfl
              refine take_ (i := 22) (N := some 100) (v := ?_) (a' := ?_) #[true, true, true, true, true, true, true, true, true, true, true, true, true, true, true, true, true, true, true, true, true, true, true, false, true, true, false, false] rfl rfl (take_ofW HT_.out HW_.out (by kernel_rfl)) (fun _ _ _ h => h) (Or.inl ⟨by rfl, ?_⟩) hHeld ?_ ?_
              rotate_left
              · rintro w' ⟨s0, s1, s2, s3⟩
                go_simp
                with_reducible rfl
              rotate_left
              · simp only [Act.put, List.setIfInBounds_toArray, List.set_cons_zero, List.set_cons_succ, i64_w, i32_w]
                rfl
              refine pure_ (i := 23) (N := some 101) (v := ?_) (a' := ?_) #[true, true, true, true, true, true, true, true, true, true, true, true, true, true, true, true, true, true, true, true, true, true, true, true, true, true, false, false] rfl rfl (any_of HT_.out (by kernel_rfl)) (fun _ _ _ h => h) (Or.inl ⟨by rfl, ?_⟩) ?_ ?_
              rotate_left
              · intro w'
                go_simp
                with_reducible rfl
              rotate_left
              · simp only [Act.put, List.setIfInBounds_toArray, List.set_cons_zero, List.set_cons_succ, i64_w, i32_w]
                rfl
              refine pure_ (i := 26) (N := some 104) (v := ?_) (a' := ?_) #[true, true, true, true, true, true, true, true, true, true, true, true, true, true, true, true, true, true, true, true, true, true, true, true, true, true, true, false] rfl rfl (any_of HT_.out (by kernel_rfl)) (fun _ _ _ h => h) (Or.inl ⟨by rfl, ?_⟩) ?_ ?_
              rotate_left
              · intro w'
                go_simp
                with_reducible rfl
              rotate_left
              · simp only [Act.put, List.setIfInBounds_toArray, List.set_cons_zero, List.set_cons_succ, i64_w, i32_w]
                rfl
              refine pure_ (i := 27) (N := some 105) (v := ?_) (a' := ?_) #[true, true, true, true, true, true, true, true, true, true, true, true, true, true, true, true, true, true, true, true, true, true, true, true, true, true, true, true] rfl rfl (any_of HT_.out (by kernel_rfl)) (fun _ _ _ h => h) (Or.inl ⟨by rfl, ?_⟩) ?_ ?_
              rotate_left
              · intro w'
                go_simp
                with_reducible rfl
              rotate_left
              · simp only [Act.put, List.setIfInBounds_toArray, List.set_cons_zero, List.set_cons_succ, i64_w, i32_w]
                rfl
              refine done_ (done_of HT_.out (by kernel_rfl)) ?_
              have hp2 := (blk_cell B15'.out 2).trans (show _ = some (Value.slice AP n1 cP) from rfl)
              clear hHeld
              go_wp2_with fail
              have HB99 := Aside0.mk (Below.refl w9.heap.size w9)
              clear hp2
              go_loopw [109] (fun v109 wc => ∃ (J3 : Int) (k3 : Nat), v109 = .int .i64 J3 ∧ Aside0 (J3 = (k3 : Int)) ∧ Aside0 (k3 ≤ n1) ∧ Aside0 (Below w9.heap.size w9 wc)) (fun v109 _ => n1 - (intOf v109).toNat)
              case atStart => exact ⟨0, 0, rfl, ⟨rfl⟩, ⟨Nat.zero_le _⟩, HB99⟩
              case round =>
                clear HB99
                obtain ⟨J3, k3, rfl, HJ3, HK3, HBW⟩ := hrel
                have hwr3 : wrap64 (J3 + 1) = J3 + 1 := by have := HJ3.out; have := HK3.out; have := HYL.out; have := HN1.out; unfold wrap64; omega
                by_cases hlt3 : k3 < n1
                · have hj3 := HJ3.out
                  have tlt3 : decide (J3 < (n1 : Int)) = true := decide_eq_true (by omega)
                  have p3 : 0 ≤ J3 := by omega
                  have q3 : J3 < (n1 : Int) := by omega
                  have hky : k3 < y1.length := by have := HN1.out; omega
                  obtain ⟨x, hx⟩ : ∃ x, x = (y1[k3]'hky).f1 := ⟨_, rfl⟩
                  have e36 : rd_T36 (y1.map (fun s => (⟨s.f1, false, false⟩ : S36))) (k3 : Int) = ⟨x, false, false⟩ := take_36 _ _ _ (by rw [List.getElem?_map, List.getElem?_eq_getElem hky, hx]; rfl)
                  have e31 : (rd_T31 y1 (k3 : Int)).f1 = x := by rw [take_31 _ _ _ (List.getElem?_eq_getElem hky), hx]
                  obtain ⟨ad36, ea36, h360, h361, h362⟩ := at_T36 HP9.out J3 p3 (by rw [List.length_map]; omega)
                  obtain ⟨ad31, ea31, _, hx31⟩ := at_T31 (Kd.R_reads' (show Kd.R k31 31 w9 w.heap.size (fun _ => True) (.slice A1_ y1.length q1_) y1 by rw [← HN1.out]; exact M9.out.r1)).2.2 J3 p3 (by omega)
                  cases ea36
                  cases ea31
                  obtain rfl : J3 = (k3 : Int) := hj3
                  rw [e36] at h360 h361 h362
                  rw [e31] at hx31
                  rw [Int.toNat_natCast] at h360 h361 h362 hx31
                  replace h360 := cell_on HBW.out h360
                  replace h361 := cell_on HBW.out h361
                  replace h362 := cell_on HBW.out h362
                  replace hx31 := cell_on HBW.out hx31
                  clear hx e36 e31 hky
                  replace p3 := eq_true p3
                  replace q3 := eq_true q3
                  have hu39 := Tryd.underlying39
                  go_upto_region 32 with (first | ((with_reducible refine gate_dst (N := 18) rfl ?_); refine box_event ?hg (N := 18) ?hd (cs := #[.int .i64 0, .bool false, .bool false]) (t := 39) ?hr ?_; (case hd => rfl); (case hg => rfl); (case hr => first | (go_simp; done) | (go_simp; rfl)); intro g18 hg wb hbox hb; have GE8 := Aside0.mk hg; have BK := Aside0.mk hbox; have HBX := Aside0.mk hb; clear hbox hb hg; have hz0 : wb.cell? ⟨g18, 0, none⟩ = some (.int .i64 0) := (blk_cell BK.out 0).trans rfl; have hf0 := blk_frozen BK.out 0; have hz1 : wb.cell? ⟨g18, 1, none⟩ = some (.bool false) := (blk_cell BK.out 1).trans rfl; have hf1 := blk_frozen BK.out 1; have hz2 : wb.cell? ⟨g18, 2, none⟩ = some (.bool false) := (blk_cell BK.out 2).trans rfl; have hf2 := blk_frozen BK.out 2) | fail)
                  have hgE : wr.heap.size ≤ g18 := by rw [GE8.out]; exact Nat.le_refl _
                  obtain ⟨wc8, hw8⟩ : ∃ W, W = ((wb.setCell ⟨g18, 0, none⟩ (.int .i64 x)).setCell ⟨g18, 1, none⟩ (.bool false)).setCell ⟨g18, 2, none⟩ (.bool false) := ⟨_, rfl⟩
                  have HB38 := Aside0.mk (show Below wr.heap.size wr wc8 by rw [hw8]; exact below_set (below_set (below_set HBX.out hgE) hgE) hgE)
                  have B18 := Aside0.mk (show wc8.heap[g18]? = some (.cells #[.int .i64 x, .bool false, .bool false] 39 (0, 0)) by rw [hw8]; exact (blk_set (blk_set (blk_set BK.out 0 _) 1 _) 2 _).trans rfl)
                  replace hx31 := cell_on HB38.out hx31
                  have HBW1 := Aside0.mk (below_step HBW.out HB38.out)
                  rw [← hw8]
                  clear hw8 HBX BK HB38 HBW hgE GE8 h360 h361 h362 hz0 hf0 hz1 hf1 hz2 hf2
                  refine start_ (n := 16) (S := (fun w' => w'.cell? ⟨g18, 0, none⟩ = some (.int .i64 x) ∧ w'.cell? ⟨g18, 1, none⟩ = some (.bool false) ∧ w'.cell? ⟨g18, 2, none⟩ = some (.bool false) ∧ w'.cell? ⟨(ad31.add (k3 * 2)).block, (ad31.add (k3 * 2)).off + 1, none⟩ = some (.int .i64 x))) (ds := []) #[false, false, false, false, false, false, false, false, false, false, false, false, false, false, false, false] (by kernel_rfl) rfl rfl ⟨(blk_cell B18.out 0).trans rfl, (blk_cell B18.out 1).trans rfl, (blk_cell B18.out 2).trans rfl, hx31⟩ (fun hHeld => ?_)
                  refine with_tabW a32_tab a32_bits (fun HT_ HW_ => ?_)
                  have HBW' := Aside0.mk (below_drew HBW1.out)
                  clear HBW1
                  generalize wc8.drew = wc9 at HBW' hHeld ⊢
                  refine pure_ (i := 0) (N := some 114) (v := ?_) (a' := ?_) #[true, false, false, false, false, false, false, false, false, false, false, false, false, false, false, false] rfl rfl (any_of HT_.out (by kernel_rfl)) (fun _ _ _ h => h) (Or.inl ⟨by rfl, ?_⟩) ?_ ?_
                  rotate_left
                  · intro w'
                    go_simp
                    with_reducible rfl
                  rotate_left
                  · simp only [Act.put, List.setIfInBounds_toArray, List.set_cons_zero, List.set_cons_succ, i64_w, i32_w]
                    rfl
                  refine take_ (i := 1) (N := some 115) (v := ?_) (a' := ?_) #[true, true, false, false, false, false, false, false, false, false, false, false, false, false, false, false] rfl rfl (take_ofW HT_.out HW_.out (by kernel_rfl)) (fun _ _ _ h => h) (Or.inl ⟨by rfl, ?_⟩) hHeld ?_ ?_
                  rotate_left
                  · rintro w' ⟨s0, s1, s2, s3⟩
                    go_simp
                    with_reducible rfl
                  rotate_left
                  · simp only [Act.put, List.setIfInBounds_toArray, List.set_cons_zero, List.set_cons_succ, i64_w, i32_w]
                    rfl
                  refine pure_ (i := 2) (N := some 116) (v := ?_) (a' := ?_) #[true, true, true, false, false, false, false, false, false, false, false, false, false, false, false, false] rfl rfl (any_of HT_.out (by kernel_rfl)) (fun _ _ _ h => h) (Or.inl ⟨by rfl, ?_⟩) ?_ ?_
                  rotate_left
                  · intro w'
                    go_simp
                    with_reducible rfl
                  rotate_left
                  · simp only [Act.put, List.setIfInBounds_toArray, List.set_cons_zero, List.set_cons_succ, i64_w, i32_w]
                    rfl
                  refine pure_ (i := 3) (N := some 117) (v := ?_) (a' := ?_) #[true, true, true, true, false, false, false, false, false, false, false, false, false, false, false, false] rfl rfl (any_of HT_.out (by kernel_rfl)) (fun _ _ _ h => h) (Or.inl ⟨by rfl, ?_⟩) ?_ ?_
                  rotate_left
                  · intro w'
                    go_simp
                    with_reducible rfl
                  rotate_left
                  · simp only [Act.put, List.setIfInBounds_toArray, List.set_cons_zero, List.set_cons_succ, i64_w, i32_w]
                    rfl
                  refine take_ (i := 4) (N := some 118) (v := ?_) (a' := ?_) #[true, true, true, true, true, false, false, false, false, false, false, false, false, false, false, false] rfl rfl (take_ofW HT_.out HW_.out (by kernel_rfl)) (fun _ _ _ h => h) (Or.inl ⟨by rfl, ?_⟩) hHeld ?_ ?_
                  rotate_left
                  · rintro w' ⟨s0, s1, s2, s3⟩
                    go_simp
                    with_reducible rfl
                  rotate_left
                  · simp only [Act.put, List.setIfInBounds_toArray, List.set_cons_zero, List.set_cons_succ, i64_w, i32_w]
                    rfl
                  refine pure_ (i := 5) (N := some 119) (v := ?_) (a' := ?_) #[true, true, true, true, true, true, false, false, false, false, false, false, false, false, false, false] rfl rfl (any_of HT_.out (by kernel_rfl)) (fun _ _ _ h => h) (Or.inl ⟨by rfl, ?_⟩) ?_ ?_
                  rotate_left
                  · intro w'
                    go_simp
                    with_reducible rfl
                  rotate_left
                  · simp only [Act.put, List.setIfInBounds_toArray, List.set_cons_zero, List.set_cons_succ, i64_w, i32_w]
                    rfl
                  refine pure_ (i := 6) (N := some 120) (v := ?_) (a' := ?_) #[true, true, true, true, true, true, true, false, false, false, false, false, false, false, false, false] rfl rfl (any_of HT_.out (by kernel_rfl)) (fun _ _ _ h => h) (Or.inl ⟨by rfl, ?_⟩) ?_ ?_
                  rotate_left
                  · intro w'
                    go_simp
                    with_reducible rfl
                  rotate_left
                  · simp only [Act.put, List.setIfInBounds_toArray, List.set_cons_zero, List.set_cons_succ, i64_w, i32_w]
                    rfl
                  refine pure_ (i := 7) (N := some 121) (v := ?_) (a' := ?_) #[true, true, true, true, true, true, true, true, false, false, false, false, false, false, false, false] rfl rfl (any_of HT_.out (by kernel_rfl)) (fun _ _ _ h => h) (Or.inl ⟨by rfl, ?_⟩) ?_ ?_
                  rotate_left
                  · intro w'
                    go_simp
                    with_reducible rfl
                  rotate_left
                  · simp only [Act.put, List.setIfInBounds_toArray, List.set_cons_zero, List.set_cons_succ, i64_w, i32_w]
                    rfl
                  refine pure_ (i := 9) (N := some 123) (v := ?_) (a' := ?_) #[true, true, true, true, true, true, true, true, false, true, false, false, false, false, false, false] rfl rfl (any_of HT_.out (by kernel_rfl)) (fun _ _ _ h => h) (Or.inl ⟨by rfl, ?_⟩) ?_ ?_
                  rotate_left
                  · intro w'
                    go_simp
                    with_reducible rfl
                  rotate_left
                  · simp only [Act.put, List.setIfInBounds_toArray, List.set_cons_zero, List.set_cons_succ, i64_w, i32_w]
                    rfl
                  refine pure_ (i := 10) (N := some 124) (v := ?_) (a' := ?_) #[true, true, true, true, true, true, true, true, false, true, true, false, false, false, false, false] rfl rfl (any_of HT_.out (by kernel_rfl)) (fun _ _ _ h => h) (Or.inl ⟨by rfl, ?_⟩) ?_ ?_
                  rotate_left
                  · intro w'
                    go_simp
                    with_reducible rfl
                  rotate_left
                  · simp only [Act.put, List.setIfInBounds_toArray, List.set_cons_zero, List.set_cons_succ, i64_w, i32_w]
                    rfl
                  refine pure_ (i := 11) (N := some 125) (v := ?_) (a' := ?_) #[true, true, true, true, true, true, true, true, false, true, true, true, false, false, false, false] rfl rfl (any_of HT_.out (by kernel_rfl)) (fun _ _ _ h => h) (Or.inl ⟨by rfl, ?_⟩) ?_ ?_
                  rotate_left
                  · intro w'
                    go_simp
                    with_reducible rfl
                  rotate_left
                  · simp only [Act.put, List.setIfInBounds_toArray, List.set_cons_zero, List.set_cons_succ, i64_w, i32_w]
                    rfl
                  refine pure_ (i := 12) (N := some 126) (v := ?_) (a' := ?_) #[true, true, true, true, true, true, true, true, false, true, true, true, true, false, false, false] rfl rfl (any_of HT_.out (by kernel_rfl)) (fun _ _ _ h => h) (Or.inl ⟨by rfl, ?_⟩) ?_ ?_
                  rotate_left
                  · intro w'
                    go_simp
                    with_reducible rfl
                  rotate_left
                  · simp only [Act.put, List.setIfInBounds_toArray, List.set_cons_zero, List.set_cons_succ, i64_w, i32_w]
                    rfl
                  refine take_ (i := 8) (N := some 122) (v := ?_) (a' := ?_) #[true, true, true, true, true, true, true, true, true, true, true, true, true, false, false, false] rfl rfl (take_ofW HT_.out HW_.out (by kernel_rfl)) (fun _ _ _ h => h) (Or.inl ⟨by rfl, ?_⟩) hHeld ?_ ?_
                  rotate_left
                  · rintro w' ⟨s0, s1, s2, s3⟩
                    go_simp
                    with_reducible rfl
                  rotate_left
                  · simp only [Act.put, List.setIfInBounds_toArray, List.set_cons_zero, List.set_cons_succ, i64_w, i32_w]
                    rfl
                  refine take_ (i := 13) (N := some 127) (v := ?_) (a' := ?_) #[true, true, true, true, true, true, true, true, true, true, true, true, true, true, false, false] rfl rfl (take_ofW HT_.out HW_.out (by kernel_rfl)) (fun _ _ _ h => h) (Or.inl ⟨by rfl, ?_⟩) hHeld ?_ ?_
                  rotate_left
                  · rintro w' ⟨s0, s1, s2, s3⟩
                    go_simp
                    with_reducible rfl
                  rotate_left
                  · simp only [Act.put, List.setIfInBounds_toArray, List.set_cons_zero, List.set_cons_succ, i64_w, i32_w]
                    rfl
                  refine pure_ (i := 14) (N := some 128) (v := ?_) (a' := ?_) #[true, true, true, true, true, true, true, true, true, true, true, true, true, true, true, false] rfl rfl (any_of HT_.out (by kernel_rfl)) (fun _ _ _ h => h) (Or.inl ⟨by rfl, ?_⟩) ?_ ?_
                  rotate_left
                  · intro w'
                    go_simp
                    with_reducible rfl
                  rotate_left
                  · simp only [Act.put, List.setIfInBounds_toArray, List.set_cons_zero, List.set_cons_succ, i64_w, i32_w]
                    rfl
                  refine pure_ (i := 15) (N := some 129) (v := ?_) (a' := ?_) #[true, true, true, true, true, true, true, true, true, true, true, true, true, true, true, true] rfl rfl (any_of HT_.out (by kernel_rfl)) (fun _ _ _ h => h) (Or.inl ⟨by rfl, ?_⟩) ?_ ?_
                  rotate_left
                  · intro w'
                    go_simp
                    with_reducible rfl
                  rotate_left
                  · simp only [Act.put, List.setIfInBounds_toArray, List.set_cons_zero, List.set_cons_succ, i64_w, i32_w]
                    rfl
                  refine done_ (done_of HT_.out (by kernel_rfl)) ?_
                  clear hHeld hx31
                  go_wp2_with fail
                  go_roundw
                  case rel => exact ⟨wrap64 ((k3 : Int) + 1), k3 + 1, rfl, ⟨by rw [hwr3]; rfl⟩, ⟨by omega⟩, HBW'⟩
                  case measure =>
                    rw [hwr3]
                    simp [intOf]
                    omega
                · have tlt3 : decide (J3 < (n1 : Int)) = false := decide_eq_false (by have := HJ3.out; omega)
                  have MZ := Aside0.mk (M9.out.on HBW.out)
                  go_wp2_with fail
                  go_roundw
                  case rel => exact ⟨2, _, by first | rfl | (simp [wrap64]; done), rfl, ⟨Or.inr (Or.inr ⟨rfl, by rw [HO2.out, if_pos hp, HOUT.out]⟩)⟩, MZ⟩
                  case measure => simp [intOf]
            · obtain rfl : n1 = 0 := by omega
              go_wp2_with fail
              go_roundw
              case rel => exact ⟨2, _, by first | rfl | (simp [wrap64]; done), rfl, ⟨Or.inr (Or.inr ⟨rfl, by rw [HO2.out, if_neg hp, HOUT.out]⟩)⟩, HM⟩
              case measure => simp [intOf]
          · clear HC
            subst hout
            go_wp2_with fail
            refine (HAW.out _ HM.out.b).mono ?_
            rintro e w5 ⟨rfl, hb⟩
            have HB5 := Aside0.mk (below_step HM.out.b hb)
            clear hb
            go_wp2_with fail
            refine (show Calls Tryd.prog 6 #[.int .i64 0, .slice A0 L c0] w5 fun e w' => e = .returned (.string out) ∧ Below w5.heap.size w5 w' by
              have h_ := make_ 0 (by decide) A0 c0 l w5 (Kd.C_below HR0.out HB5.out) (by have := HLN.out; omega) HINA.out.m (HLD.out.below HB5.out)
              rw [← HLL.out, HMKL.out] at h_
              exact h_).mono ?_
            rintro e w6 ⟨rfl, hb⟩
            have HB6 := Aside0.mk (below_step HB5.out hb)
            clear hb
            go_wp2
            go_ret
            exact ⟨rfl, HB6.out⟩


end Go.Proofs.YtakjcihjkagnfaaDoor.Mo
