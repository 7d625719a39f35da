/- spec.MadeModes, by hand (printed by wip/gen_modes.py). -/
import Derived.Test.YtakjcihjkagnfaaDoorModesD
namespace Go.Proofs.YtakjcihjkagnfaaDoor.Mo
set_option linter.unusedVariables false
set_option linter.unusedSimpArgs false
open Go Go.RowKit Go.Proofs.YtakjcihjkagnfaaDoor.PM Go.Proofs.YtakjcihjkagnfaaDoor.Or Go.Proofs.YtakjcihjkagnfaaDoor.Dig Go.Proofs.YtakjcihjkagnfaaDoor.Mp Go.Proofs.YtakjcihjkagnfaaDoorW.PrintWords Go.Proofs.YtakjcihjkagnfaaDoorW.PrintLast Go.Proofs.YtakjcihjkagnfaaDoorW.PrintMore

theorem info2' : (Tryd.prog.info? 2).map (fun i => (i.zero, i.size, i.bytes)) = some (some (.int .i64 0), 1, 8) := by kernel_rfl
/-- The box of both rows (its cells c0, c1), the rows v0, v1 and va, apart from one another. -/
structure MS (B : Nat) (w W : World) (g : Nat) (c0 c1 v0 v1 va : Value) (l0 l1 la : List Int) : Prop where
  bx : W.heap[g]? = some (.cells #[c0, c1] 50 (0, 0))
  r0 : Kd.R (Kd.int .i64) 2 W B (fun _ => True) v0 l0
  r1 : Kd.R (Kd.int .i64) 2 W B (fun _ => True) v1 l1
  ra : Kd.R (Kd.int .i64) 2 W B (fun _ => True) va la
  s01 : ∀ k, v0.ownBlock = some k → some k ≠ v1.ownBlock
  s0a : ∀ k, v0.ownBlock = some k → some k ≠ va.ownBlock
  s1a : ∀ k, v1.ownBlock = some k → some k ≠ va.ownBlock
  b : Below B w W
  ge : B ≤ g
  lt : B ≤ W.heap.size
section
variable {B : Nat} {w W W' : World} {g : Nat} {c0 c1 v0 v1 va : Value} {l0 l1 la : List Int}
theorem MS.on (h : MS B w W g c0 c1 v0 v1 va l0 l1 la) (hb : Below W.heap.size W W') : MS B w W' g c0 c1 v0 v1 va l0 l1 la :=
  ⟨(hb.block _ (blk_lt h.bx)).trans h.bx, Kd.R_below h.r0 hb, Kd.R_below h.r1 hb, Kd.R_below h.ra hb, h.s01, h.s0a, h.s1a, h.b.trans (hb.mono h.lt), h.ge, Nat.le_trans h.lt hb.size⟩
theorem gap {u v x : Value} {m : Nat} {xs : List Int} (hr : Kd.R (Kd.int .i64) 2 W B (fun _ => True) x xs) (hs : ∀ k, v.ownBlock = some k → some k ≠ x.ownBlock) (hat : u.ownBlock = v.ownBlock ∨ ∃ b, u.ownBlock = some b ∧ W.heap.size ≤ b) : ∀ k, u.ownBlock = some k → some k ≠ x.ownBlock := by
  intro k hk e
  rcases hat with e1 | ⟨b, e1, hl⟩
  · rw [e1] at hk
    exact hs k hk e
  · rw [hk] at e1
    obtain rfl := Option.some.inj e1
    have := Kd.R_lt hr k e.symm
    omega
theorem sw {v x : Value} (hs : ∀ k, v.ownBlock = some k → some k ≠ x.ownBlock) : ∀ k, x.ownBlock = some k → some k ≠ v.ownBlock := fun k hk e => hs k e.symm hk.symm
theorem MS.box (h : MS B w W g c0 c1 v0 v1 va l0 l1 la) {x : Value} {xs : List Int} (hr : Kd.R (Kd.int .i64) 2 W B (fun _ => True) x xs) : some g ≠ x.ownBlock := Kd.R_ne hr h.bx (by decide)
theorem MS.grow0 (h : MS B w W g c0 c1 v0 v1 va l0 l1 la) {u : Value} {l : List Int} (ho : Kd.R (Kd.int .i64) 2 W' B (fun _ => True) u l) (hb : Below B w W') (hg : W.grownBy W' v0.ownBlock) (hat : u.ownBlock = v0.ownBlock ∨ ∃ b, u.ownBlock = some b ∧ W.heap.size ≤ b) : MS B w W' g c0 c1 u v1 va l l1 la :=
  ⟨blk_grown h.bx hg (h.box h.r0), ho, Kd.R_grown2 h.r1 rfl hg h.s01, Kd.R_grown2 h.ra rfl hg h.s0a, gap (m := 0) h.r1 h.s01 hat, gap (m := 0) h.ra h.s0a hat, h.s1a, hb, h.ge, Nat.le_trans h.lt hg.size⟩
theorem MS.grow1 (h : MS B w W g c0 c1 v0 v1 va l0 l1 la) {u : Value} {l : List Int} (ho : Kd.R (Kd.int .i64) 2 W' B (fun _ => True) u l) (hb : Below B w W') (hg : W.grownBy W' v1.ownBlock) (hat : u.ownBlock = v1.ownBlock ∨ ∃ b, u.ownBlock = some b ∧ W.heap.size ≤ b) : MS B w W' g c0 c1 v0 u va l0 l la :=
  ⟨blk_grown h.bx hg (h.box h.r1), Kd.R_grown2 h.r0 rfl hg (sw h.s01), ho, Kd.R_grown2 h.ra rfl hg h.s1a, sw (gap (m := 0) h.r0 (sw h.s01) hat), h.s0a, gap (m := 0) h.ra h.s1a hat, hb, h.ge, Nat.le_trans h.lt hg.size⟩
theorem MS.growa (h : MS B w W g c0 c1 v0 v1 va l0 l1 la) {u : Value} {l : List Int} (ho : Kd.R (Kd.int .i64) 2 W' B (fun _ => True) u l) (hb : Below B w W') (hg : W.grownBy W' va.ownBlock) (hat : u.ownBlock = va.ownBlock ∨ ∃ b, u.ownBlock = some b ∧ W.heap.size ≤ b) : MS B w W' g c0 c1 v0 v1 u l0 l1 l :=
  ⟨blk_grown h.bx hg (h.box h.ra), Kd.R_grown2 h.r0 rfl hg (sw h.s0a), Kd.R_grown2 h.r1 rfl hg (sw h.s1a), ho, h.s01, sw (gap (m := 0) h.r0 (sw h.s0a) hat), sw (gap (m := 0) h.r1 (sw h.s1a) hat), hb, h.ge, Nat.le_trans h.lt hg.size⟩
theorem MS.store0 (h : MS B w W g c0 c1 v0 v1 va l0 l1 la) (u : Value) : MS B w (W.setCell ⟨g, 0, none⟩ u) g u c1 v0 v1 va l0 l1 la :=
  ⟨(blk_set h.bx 0 u).trans rfl, Kd.R_set h.r0 h.bx (by decide) 0 u, Kd.R_set h.r1 h.bx (by decide) 0 u, Kd.R_set h.ra h.bx (by decide) 0 u, h.s01, h.s0a, h.s1a, h.b.setCell h.ge u, h.ge, Nat.le_trans h.lt ((Below.refl 0 W).setCell (Nat.zero_le _) u).size⟩
theorem MS.store1 (h : MS B w W g c0 c1 v0 v1 va l0 l1 la) (u : Value) : MS B w (W.setCell ⟨g, 1, none⟩ u) g c0 u v0 v1 va l0 l1 la :=
  ⟨(blk_set h.bx 1 u).trans rfl, Kd.R_set h.r0 h.bx (by decide) 1 u, Kd.R_set h.r1 h.bx (by decide) 1 u, Kd.R_set h.ra h.bx (by decide) 1 u, h.s01, h.s0a, h.s1a, h.b.setCell h.ge u, h.ge, Nat.le_trans h.lt ((Below.refl 0 W).setCell (Nat.zero_le _) u).size⟩
theorem MS.k0 (h : MS B w W g c0 c1 v0 v1 va l0 l1 la) : W.cell? ⟨g, 0, none⟩ = some c0 := (blk_cell h.bx 0).trans rfl
theorem MS.k1 (h : MS B w W g c0 c1 v0 v1 va l0 l1 la) : W.cell? ⟨g, 1, none⟩ = some c1 := (blk_cell h.bx 1).trans rfl
theorem MS.f (h : MS B w W g c0 c1 v0 v1 va l0 l1 la) (j : Nat) : W.frozen? ⟨g, j, none⟩ = false := blk_frozen h.bx j
end
theorem cell_on {W W' : World} (hb : Below W.heap.size W W') {p : Addr} {v : Value} (h : W.cell? p = some v) : W'.cell? p = some v := (hb.cell (World.block_lt_of_cell? W _ h)).trans h
/-- The numbers of one kind; all numbers. -/
def nb (b : Bool) (l : List S51) : List Int := (l.filter (fun s => s.f0 == b)).map (·.f1)
def nal (l : List S51) : List Int := l.map (·.f1)
def mkT (b : Bool) : ByteArray := if b = true then ⟨#[63]⟩ else ⟨#[]⟩
def numT (l : List Int) : ByteArray := join ⟨#[59]⟩ (l.map dig)
def part (out : ByteArray) (b : Bool) (which : Int) (l : List Int) : ByteArray := if 0 < l.length then out ++ ((((⟨#[27, 91]⟩ : ByteArray) ++ mkT b) ++ numT l) ++ cmdT (decide (which = 1))) else out
def madeT (which : Int) (l : List S51) : ByteArray :=
  if which = 2 then (((⟨#[27, 91]⟩ : ByteArray) ++ mkT (decide (0 < (nb true l).length))) ++ numT (nal l)) ++ ⟨#[110]⟩
  else part (part ⟨#[]⟩ false which (nb false l)) true which (nb true l)
set_option maxRecDepth 100000 in
theorem ix0 (a b : Value) (W : World) : (Instr.index 50 (.agg #[a, b]) (.int .i64 0)).run Tryd.prog W = .ok a W := by kernel_rfl
set_option maxRecDepth 100000 in
theorem ix1 (a b : Value) (W : World) : (Instr.index 50 (.agg #[a, b]) (.int .i64 1)).run Tryd.prog W = .ok b W := by kernel_rfl
theorem mk_f (b : Bool) (n : Int) : spec_Mode_mark.f b n = some (mkT b) := by unfold spec_Mode_mark.f mkT; split <;> rfl
theorem mk_size (b : Bool) : (mkT b).size ≤ 1 := by unfold mkT; split <;> decide
theorem num_size (l : List Int) (hl : l.length ≤ 100) (h : Mp.In l) : (numT l).size ≤ 2200 := by
  have h1 := join_size ⟨#[59]⟩ rfl _ h.sizes
  rw [List.length_map] at h1
  unfold numT
  omega
theorem part_size (out : ByteArray) (b : Bool) (which : Int) (l : List Int) (hl : l.length ≤ 100) (h : Mp.In l) : (part out b which l).size ≤ out.size + 2210 := by
  have h1 := num_size l hl h
  have h2 := mk_size b
  unfold part
  split
  · have h3 : (cmdT (decide (which = 1))).size = 1 := by unfold cmdT; split <;> rfl
    have h4 : (⟨#[27, 91]⟩ : ByteArray).size = 2 := rfl
    simp only [ByteArray.size_append]
    omega
  · omega
theorem nb_in (b : Bool) (l : List S51) (h : Mp.In (nal l)) : Mp.In (nb b l) := fun x hx => by
  obtain ⟨s, hs, e⟩ := List.mem_map.1 hx
  exact h x (List.mem_map.2 ⟨s, (List.mem_filter.1 hs).1, e⟩)
theorem nb_snoc (b : Bool) (l : List S51) (s : S51) : nb b (l ++ [s]) = nb b l ++ (if s.f0 = b then [s.f1] else []) := by
  unfold nb
  rw [List.filter_append, List.map_append]
  congr 1
  by_cases h : s.f0 = b
  · rw [if_pos h]
    simp [h]
  · rw [if_neg h]
    simp [h]
theorem nb_len (b : Bool) (l : List S51) : (nb b l).length ≤ l.length := by
  unfold nb
  rw [List.length_map]
  exact List.length_filter_le _ _
theorem take_51 (l : List S51) (k : Nat) (hk : k < l.length) : l.take (k + 1) = l.take k ++ [rd_T51 l (k : Int)] := by
  show _ = _ ++ [l.getD (k : Int).toNat z51]
  rw [Int.toNat_natCast, List.getD_eq_getElem?_getD, List.take_add_one, List.getElem?_eq_getElem hk]
  rfl

def m9T : Bool × List (List Nat × List Nat) := (true, [([], []), ([], []), ([1], [1]), ([2], [2]), ([], []), ([4], [4]), ([5], [5]), ([3, 6], [3, 6]), ([], []), ([], []), ([9], [9]), ([10], [10]), ([8, 11, 7], [8, 11]), ([0, 0, 1, 2, 3, 4, 5, 6, 7], [0]), ([13, 7, 12, 0, 1, 2, 3, 4, 5, 6, 7], [7, 13]), ([12, 14, 0, 1, 2, 3, 4, 5, 6, 7, 8, 9, 10, 11, 12, 13, 14], [8, 12])])
def m9B : List Nat := [0, 0, 2, 6, 0, 16, 48, 126, 0, 0, 512, 1536, 4094, 255, 16383, 32767]
theorem m9_tab : rtab .any (opsOf Tryd.f7 9) = m9T := by kernel_rfl
theorem m9_bits : waitsOk m9T.2 m9B = true := by kernel_rfl
def m18T : Bool × List (List Nat × List Nat) := (true, [([], []), ([], []), ([1], [1]), ([2], [2]), ([3], [3]), ([4], [4]), ([], []), ([6, 4], [6]), ([5, 7], [5, 7]), ([], []), ([], []), ([9, 10], [9, 10]), ([11], [11]), ([8, 12], [8, 12]), ([0, 13], [0, 13]), ([14, 7, 0, 1, 2, 3, 4, 5, 6, 7, 8, 9, 10, 11, 12, 13, 14], [0, 14])])
def m18B : List Nat := [0, 0, 2, 6, 14, 30, 0, 94, 254, 0, 0, 1536, 3584, 8190, 16383, 32767]
theorem m18_tab : rtab .any (opsOf Tryd.f7 18) = m18T := by kernel_rfl
theorem m18_bits : waitsOk m18T.2 m18B = true := by kernel_rfl

set_option maxHeartbeats 16000000 in
set_option maxRecDepth 100000 in
theorem made_ (A0 : Option Addr) (c0 : Nat) (which : Int) (l : List S51) (w : World) (hr0 : Kd.C k51 w A0 l.length l) (hl : l.length ≤ 100) (hin : Mp.In (nal l)) (hw : 0 ≤ which ∧ which ≤ 2) :
    Calls Tryd.prog 7 #[.int .i64 which, .slice A0 l.length c0] w fun e w' => e = .returned (.string (madeT which l)) ∧ Below w.heap.size w w' := by
  have HW2 := Aside0.mk hw
  have HIN := Aside0.mk hin
  have HMT := Aside0.mk (show madeT which l = _ from rfl)
  obtain ⟨T, hT⟩ : ∃ T, T = madeT which l := ⟨_, rfl⟩
  have HT := Aside0.mk hT
  rw [← hT]
  clear hT hw hin HMT
  have hu51 := Tryd.underlying51
  have HR0 := Aside0.mk hr0
  obtain ⟨L, hL⟩ : ∃ L, L = l.length := ⟨_, rfl⟩
  have HLL := Aside0.mk hL
  have HL2 := Aside0.mk (show L ≤ 100 by omega)
  rw [← hL]
  clear hL hl hr0
  go_enter Tryd.func7, Tryd.ntmps7
  go_wp2_with (first | ((with_reducible refine gate_dst (N := 5) rfl ?_); refine box_event ?hg (N := 5) ?hd (cs := #[.slice none 0 0, .slice none 0 0]) (t := 50) ?hr ?_; (case hd => rfl); (case hg => rfl); (case hr => first | (go_simp; done) | (go_simp; rfl)); intro g hg wb hbox hb; have GE := Aside0.mk hg; have BK := Aside0.mk hbox; have HBX := Aside0.mk hb; clear hbox hb hg) | fail)
  have HM := Aside0.mk (show MS w.heap.size w wb g (.slice none 0 0) (.slice none 0 0) (.slice none 0 0) (.slice none 0 0) (.slice none 0 0) (nb false (l.take 0)) (nb true (l.take 0)) (nal (l.take 0)) from ⟨BK.out, Kd.R_nil _ _ _ _ _, Kd.R_nil _ _ _ _ _, Kd.R_nil _ _ _ _ _, fun k hk => by simp [Value.ownBlock] at hk, fun k hk => by simp [Value.ownBlock] at hk, fun k hk => by simp [Value.ownBlock] at hk, HBX.out, by rw [GE.out]; exact Nat.le_refl _, HBX.out.size⟩)
  clear GE BK HBX
  go_loopw [6, 15] (fun v6 v15 wr => ∃ (J : Int) (k : Nat) (v0 v1 : Value), v15 = .int .i64 J ∧ Aside0 (J = (k : Int)) ∧ Aside0 (k ≤ L) ∧ Aside0 (MS w.heap.size w wr g v0 v1 v0 v1 v6 (nb false (l.take k)) (nb true (l.take k)) (nal (l.take k)))) (fun _ v15 _ => L - (intOf v15).toNat)
  case atStart => exact ⟨0, 0, _, _, rfl, ⟨rfl⟩, ⟨Nat.zero_le _⟩, HM⟩
  case round =>
    clear HM
    obtain ⟨J, k, v0, v1, rfl, HJ, HK, HM⟩ := hrel
    obtain ⟨va, hva⟩ : ∃ v, v = u6 := ⟨_, rfl⟩
    by_cases hlt : k < L
    · have hj := HJ.out
      have tlt : decide (J < (L : Int)) = true := decide_eq_true (by omega)
      have p0 : 0 ≤ J := by omega
      have q0 : J < (L : Int) := by omega
      have hwr : wrap64 (J + 1) = J + 1 := by have := HL2.out; unfold wrap64; omega
      obtain ⟨ad, e0, hx0, hx1⟩ := at_T51 HR0.out J p0 (by have := HLL.out; omega)
      cases e0
      replace hx0 := (HM.out.b.cell (World.block_lt_of_cell? w _ hx0)).trans hx0
      replace hx1 := (HM.out.b.cell (World.block_lt_of_cell? w _ hx1)).trans hx1
      have hkl : k < l.length := by have := HLL.out; omega
      have htk := take_51 l k hkl
      rw [← hj] at htk
      obtain ⟨s, hs⟩ : ∃ s, s = rd_T51 l J := ⟨_, rfl⟩
      rw [← hs] at hx0 hx1 htk
      obtain ⟨b, n⟩ := s
      obtain ⟨y0, hy0⟩ : ∃ y, y = nb false (l.take k) := ⟨_, rfl⟩
      obtain ⟨y1, hy1⟩ : ∃ y, y = nb true (l.take k) := ⟨_, rfl⟩
      obtain ⟨ya, hya⟩ : ∃ y, y = nal (l.take k) := ⟨_, rfl⟩
      rw [← hy0, ← hy1, ← hya] at HM
      have HYL := Aside0.mk (show y0.length ≤ 100 ∧ y1.length ≤ 100 ∧ ya.length ≤ 100 by
        have h1 := nb_len false (l.take k)
        have h2 := nb_len true (l.take k)
        have h3 : (nal (l.take k)).length = (l.take k).length := List.length_map ..
        rw [List.length_take] at h1 h2 h3
        rw [hy0, hy1, hya]
        have := HL2.out
        omega)
      have HY2 := Aside0.mk (show nb false (l.take (k + 1)) = y0 ++ (if b = false then [n] else []) ∧ nb true (l.take (k + 1)) = y1 ++ (if b = true then [n] else []) ∧ nal (l.take (k + 1)) = ya ++ [n] by
        rw [htk, nb_snoc, nb_snoc, hy0, hy1, hya]
        exact ⟨rfl, rfl, by unfold nal; rw [List.map_append]; rfl⟩)
      clear hj hs hkl htk hy0 hy1 hya
      replace p0 := eq_true p0
      replace q0 := eq_true q0
      rw [← hva] at HM ⊢
      clear hva
      cases b with
      | true =>
        go_upto_region 9 with (first | ((with_reducible refine gate_dst (N := 8) rfl ?_); refine box_event ?hg (N := 8) ?hd (cs := #[.bool false, .int .i64 0]) (t := 51) ?hr ?_; (case hd => rfl); (case hg => rfl); (case hr => first | (go_simp; done) | (go_simp; rfl)); intro g8 hg wb8 hbox hb; have GE8 := Aside0.mk hg; have BK := Aside0.mk hbox; have HBX := Aside0.mk hb; clear hbox hb hg; have hz0 : wb8.cell? ⟨g8, 0, none⟩ = some (.bool false) := (blk_cell BK.out 0).trans rfl; have hz1 : wb8.cell? ⟨g8, 1, none⟩ = some (.int .i64 0) := (blk_cell BK.out 1).trans rfl; have hf0 := blk_frozen BK.out 0; have hf1 := blk_frozen BK.out 1) | fail)
        have hgE : wr.heap.size ≤ g8 := by rw [GE8.out]; exact Nat.le_refl _
        obtain ⟨w8, hw8⟩ : ∃ W, W = (wb8.setCell ⟨g8, 0, none⟩ (.bool true)).setCell ⟨g8, 1, none⟩ (.int .i64 n) := ⟨_, rfl⟩
        have HM8 := Aside0.mk (show MS w.heap.size w w8 g v0 v1 v0 v1 va y0 y1 ya from HM.out.on (by rw [hw8]; exact below_set (below_set HBX.out hgE) hgE))
        have BK8 := Aside0.mk (show w8.heap[g8]? = some (.cells #[.bool true, .int .i64 n] 51 (0, 0)) by rw [hw8]; exact (blk_set (blk_set BK.out 0 _) 1 _).trans rfl)
        have hc8 : w8.cell? ⟨g8, 1, none⟩ = some (.int .i64 n) := (blk_cell BK8.out 1).trans rfl
        rw [← hw8]
        clear hw8 HBX BK hz0 hz1 hf0 hf1 HM hx0 hx1 hgE GE8
        refine start_ (n := 16) (S := (fun w' => w'.cell? ⟨g, 1, none⟩ = some v1 ∧ w'.cell? ⟨g8, 1, none⟩ = some (.int .i64 n))) (ds := [14]) #[false, false, false, false, false, false, false, false, false, false, false, false, false, false, false, false] (by kernel_rfl) rfl rfl ⟨HM8.out.k1, hc8⟩ (fun hHeld => ?_)
        refine with_tabW m9_tab m9_bits (fun HT_ HW_ => ?_)
        have M0 := Aside0.mk (HM8.out.on (below_drew (Below.refl _ _)))
        have C0 := Aside0.mk (((below_drew (Below.refl w8.heap.size w8)).block _ (blk_lt BK8.out)).trans BK8.out)
        clear HM8
        generalize w8.drew = wy at M0 C0 hHeld ⊢
        refine pure_ (i := 0) (N := some 21) (v := ?_) (a' := ?_) #[true, false, false, false, false, false, false, false, false, false, false, false, false, false, false, false] rfl rfl (any_of HT_.out (by kernel_rfl)) (fun _ _ _ h => h) (Or.inl ⟨by rfl, ?_⟩) ?_ ?_
        rotate_left
        · intro w'
          go_simp
          with_reducible rfl
        rotate_left
        · simp only [Act.put, List.setIfInBounds_toArray, List.set_cons_zero, List.set_cons_succ, i64_w, i32_w]
          rfl
        refine pure_ (i := 1) (N := some 22) (v := ?_) (a' := ?_) #[true, true, false, false, false, false, false, false, false, false, false, false, false, false, false, false] rfl rfl (any_of HT_.out (by kernel_rfl)) (fun _ _ _ h => h) (Or.inl ⟨by rfl, ?_⟩) ?_ ?_
        rotate_left
        · intro w'
          go_simp
          with_reducible rfl
        rotate_left
        · simp only [Act.put, List.setIfInBounds_toArray, List.set_cons_zero, List.set_cons_succ, i64_w, i32_w]
          rfl
        refine pure_ (i := 2) (N := some 23) (v := ?_) (a' := ?_) #[true, true, true, false, false, false, false, false, false, false, false, false, false, false, false, false] rfl rfl (any_of HT_.out (by kernel_rfl)) (fun _ _ _ h => h) (Or.inl ⟨by rfl, ?_⟩) ?_ ?_
        rotate_left
        · intro w'
          go_simp
          with_reducible rfl
        rotate_left
        · simp only [Act.put, List.setIfInBounds_toArray, List.set_cons_zero, List.set_cons_succ, i64_w, i32_w]
          rfl
        refine pure_ (i := 4) (N := some 25) (v := ?_) (a' := ?_) #[true, true, true, false, true, false, false, false, false, false, false, false, false, false, false, false] rfl rfl (any_of HT_.out (by kernel_rfl)) (fun _ _ _ h => h) (Or.inl ⟨by rfl, ?_⟩) ?_ ?_
        rotate_left
        · intro w'
          go_simp
          with_reducible rfl
        rotate_left
        · simp only [Act.put, List.setIfInBounds_toArray, List.set_cons_zero, List.set_cons_succ, i64_w, i32_w]
          rfl
        refine pure_ (i := 8) (N := some 29) (v := ?_) (a' := ?_) #[true, true, true, false, true, false, false, false, true, false, false, false, false, false, false, false] rfl rfl (any_of HT_.out (by kernel_rfl)) (fun _ _ _ h => h) (Or.inl ⟨by rfl, ?_⟩) ?_ ?_
        rotate_left
        · intro w'
          go_simp
          with_reducible rfl
        rotate_left
        · simp only [Act.put, List.setIfInBounds_toArray, List.set_cons_zero, List.set_cons_succ, i64_w, i32_w]
          rfl
        refine pure_ (i := 9) (N := some 30) (v := ?_) (a' := ?_) #[true, true, true, false, true, false, false, false, true, true, false, false, false, false, false, false] rfl rfl (any_of HT_.out (by kernel_rfl)) (fun _ _ _ h => h) (Or.inl ⟨by rfl, ?_⟩) ?_ ?_
        rotate_left
        · intro w'
          go_simp
          with_reducible rfl
        rotate_left
        · simp only [Act.put, List.setIfInBounds_toArray, List.set_cons_zero, List.set_cons_succ, i64_w, i32_w]
          rfl
        refine take_ (i := 3) (N := some 24) (v := ?_) (a' := ?_) #[true, true, true, true, true, false, false, false, true, true, false, false, false, false, false, false] rfl rfl (take_ofW HT_.out HW_.out (by kernel_rfl)) (fun _ _ _ h => h) (Or.inl ⟨by rfl, ?_⟩) hHeld ?_ ?_
        rotate_left
        · rintro w' ⟨s0, s1⟩
          go_simp
          with_reducible rfl
        rotate_left
        · simp only [Act.put, List.setIfInBounds_toArray, List.set_cons_zero, List.set_cons_succ, i64_w, i32_w]
          rfl
        refine take_ (i := 5) (N := some 26) (v := ?_) (a' := ?_) #[true, true, true, true, true, true, false, false, true, true, false, false, false, false, false, false] rfl rfl (take_ofW HT_.out HW_.out (by kernel_rfl)) (fun _ _ _ h => h) (Or.inl ⟨by rfl, ?_⟩) hHeld ?_ ?_
        rotate_left
        · rintro w' ⟨s0, s1⟩
          go_simp
          with_reducible rfl
        rotate_left
        · simp only [Act.put, List.setIfInBounds_toArray, List.set_cons_zero, List.set_cons_succ, i64_w, i32_w]
          rfl
        refine take_ (i := 10) (N := some 31) (v := ?_) (a' := ?_) #[true, true, true, true, true, true, false, false, true, true, true, false, false, false, false, false] rfl rfl (take_ofW HT_.out HW_.out (by kernel_rfl)) (fun _ _ _ h => h) (Or.inl ⟨by rfl, ?_⟩) hHeld ?_ ?_
        rotate_left
        · rintro w' ⟨s0, s1⟩
          go_simp
          with_reducible rfl
        rotate_left
        · simp only [Act.put, List.setIfInBounds_toArray, List.set_cons_zero, List.set_cons_succ, i64_w, i32_w]
          rfl
        refine join_ (σ := Value × Value × Value × Value) 2 #[true, true, true, true, true, true, true, true, true, true, true, true, true, true, false, false] (fun s => [(27, s.1), (28, s.2.1), (32, s.2.2.1), (33, s.2.2.2), (34, .pointer (some ⟨g, 1, none⟩))]) (fun s w' => MS w.heap.size w w' g v0 v1 v0 s.2.1 s.2.2.2 y0 (y1 ++ [n]) (ya ++ [n])) ?_ ?_
        rotate_left
        · intro hCont
          refine two_ (i := 6) (j := 11) (Ni := some 27) (Nj := some 32) #[true, true, true, true, true, true, true, false, true, true, true, false, false, false, false, false] #[true, true, true, true, true, true, false, false, true, true, true, true, false, false, false, false] rfl rfl rfl rfl (two_of HT_.out (by kernel_rfl)) (by decide) (by decide) (fun K hK => ?_) (fun K hK => ?_)
          · skip
            refine Kd.R_lit_step (Kd.int .i64) _ 2 ?hg (N := 27) ?hd (xs := ([n] : List Int)) (inner := [.int .i64 n]) (ok := fun _ => True) (okp := fun _ => True) ?hr ?hp (fun _ hk => hk) trivial (Below.refl _ _) (Nat.le_refl _) (by simp) ?_; (case hd => rfl); (case hg => rfl); (case hr => first | (go_simp; done) | (go_simp; rfl)); (case hp => exact (Reps.one (show Kd.M (Kd.int .i64) _ _ _ n [.int .i64 n] from rfl) (Reps.none _ _)))
            intro X1wq1 wq1 ho hb hg_ hnew_
            clear hg_ hnew_
            have HX1wq1 := Aside0.mk ho
            have Mwq1 := Aside0.mk (M0.out.on hb)
            have Cwq1 := Aside0.mk ((hb.block _ (blk_lt C0.out)).trans C0.out)
            obtain ⟨AX1wq1, cX1wq1, eX1wq1⟩ : ∃ A c, X1wq1 = .slice A 1 c := Kd.R_slice ho
            subst eX1wq1
            clear ho hb
            refine hK.out _ _ ⟨Mwq1.out.k1, (blk_cell Cwq1.out 1).trans rfl⟩ (fun hHeld => ?_)
            clear hK K
            refine norm_ (a' := ?_) ?_ ?_
            rotate_left
            · show Act.put _ (some 27) _ = _
              simp only [Act.put, List.setIfInBounds_toArray, List.set_cons_zero, List.set_cons_succ, i64_w, i32_w]
              rfl
            refine two_ (i := 7) (j := 11) (Ni := some 28) (Nj := some 32) #[true, true, true, true, true, true, true, true, true, true, true, false, false, false, false, false] #[true, true, true, true, true, true, true, false, true, true, true, true, false, false, false, false] rfl rfl rfl rfl (two_of HT_.out (by kernel_rfl)) (by decide) (by decide) (fun K hK => ?_) (fun K hK => ?_)
            · skip
              refine Kd.R_append_rows_step (Kd.int .i64) (w0 := w) w.heap.size (by rfl) (.tmp 24) (.tmp 27) 49 2 (.int .i64 0) 8 rfl Tryd.underlying49 info2' rfl (by decide) (by omega) v1 y1 [n] AX1wq1 1 cX1wq1 (fun _ => True) (fun _ => False) (by rfl) (by rfl) Mwq1.out.r1 (Kd.R_reads' HX1wq1.out).2.2 (fun _ _ h => h) (fun _ h => h.elim) (fun _ _ => trivial) Mwq1.out.b Mwq1.out.lt (by have := HYL.out; show (y1.length + 1) * 8 ≤ _; omega) ?_
              intro u1wq2 wq2 ho hb hg hat
              have Mwq2 := Aside0.mk (Mwq1.out.grow1 ho hb hg hat)
              have Cwq2 := Aside0.mk (blk_grown Cwq1.out hg (Kd.R_ne Mwq1.out.r1 Cwq1.out (by decide)))
              clear ho hb hg hat
              refine hK.out _ _ ⟨Mwq2.out.k1, (blk_cell Cwq2.out 1).trans rfl⟩ (fun hHeld => ?_)
              clear hK K
              refine norm_ (a' := ?_) ?_ ?_
              rotate_left
              · show Act.put _ (some 28) _ = _
                simp only [Act.put, List.setIfInBounds_toArray, List.set_cons_zero, List.set_cons_succ, i64_w, i32_w]
                rfl
              refine pure_ (i := 13) (N := some 34) (v := ?_) (a' := ?_) #[true, true, true, true, true, true, true, true, true, true, true, false, false, true, false, false] rfl rfl (any_of HT_.out (by kernel_rfl)) (fun _ _ _ h => h) (Or.inl ⟨by rfl, ?_⟩) ?_ ?_
              rotate_left
              · intro w'
                go_simp
                with_reducible rfl
              rotate_left
              · simp only [Act.put, List.setIfInBounds_toArray, List.set_cons_zero, List.set_cons_succ, i64_w, i32_w]
                rfl
              refine one_ (i := 11) (N := some 32) #[true, true, true, true, true, true, true, true, true, true, true, true, false, true, false, false] rfl rfl (one_of HT_.out (by kernel_rfl)) (by decide) (fun K hK => ?_)
              refine Kd.R_lit_step (Kd.int .i64) _ 2 ?hg (N := 32) ?hd (xs := ([n] : List Int)) (inner := [.int .i64 n]) (ok := fun _ => True) (okp := fun _ => True) ?hr ?hp (fun _ hk => hk) trivial (Below.refl _ _) (Nat.le_refl _) (by simp) ?_; (case hd => rfl); (case hg => rfl); (case hr => first | (go_simp; done) | (go_simp; rfl)); (case hp => exact (Reps.one (show Kd.M (Kd.int .i64) _ _ _ n [.int .i64 n] from rfl) (Reps.none _ _)))
              intro X2wq3 wq3 ho hb hg_ hnew_
              clear hg_ hnew_
              have HX2wq3 := Aside0.mk ho
              have Mwq3 := Aside0.mk (Mwq2.out.on hb)
              have Cwq3 := Aside0.mk ((hb.block _ (blk_lt Cwq2.out)).trans Cwq2.out)
              obtain ⟨AX2wq3, cX2wq3, eX2wq3⟩ : ∃ A c, X2wq3 = .slice A 1 c := Kd.R_slice ho
              subst eX2wq3
              clear ho hb
              refine hK.out _ _ ⟨Mwq3.out.k1, (blk_cell Cwq3.out 1).trans rfl⟩ (fun hHeld => ?_)
              clear hK K
              refine norm_ (a' := ?_) ?_ ?_
              rotate_left
              · show Act.put _ (some 32) _ = _
                simp only [Act.put, List.setIfInBounds_toArray, List.set_cons_zero, List.set_cons_succ, i64_w, i32_w]
                rfl
              refine one_ (i := 12) (N := some 33) #[true, true, true, true, true, true, true, true, true, true, true, true, true, true, false, false] rfl rfl (one_of HT_.out (by kernel_rfl)) (by decide) (fun K hK => ?_)
              refine Kd.R_append_rows_step (Kd.int .i64) (w0 := w) w.heap.size (by rfl) (.tmp 29) (.tmp 32) 49 2 (.int .i64 0) 8 rfl Tryd.underlying49 info2' rfl (by decide) (by omega) va ya [n] AX2wq3 1 cX2wq3 (fun _ => True) (fun _ => False) (by rfl) (by rfl) Mwq3.out.ra (Kd.R_reads' HX2wq3.out).2.2 (fun _ _ h => h) (fun _ h => h.elim) (fun _ _ => trivial) Mwq3.out.b Mwq3.out.lt (by have := HYL.out; show (ya.length + 1) * 8 ≤ _; omega) ?_
              intro u2wq4 wq4 ho hb hg hat
              have Mwq4 := Aside0.mk (Mwq3.out.growa ho hb hg hat)
              have Cwq4 := Aside0.mk (blk_grown Cwq3.out hg (Kd.R_ne Mwq3.out.ra Cwq3.out (by decide)))
              clear ho hb hg hat
              refine hK.out _ _ ⟨Mwq4.out.k1, (blk_cell Cwq4.out 1).trans rfl⟩ (fun hHeld => ?_)
              clear hK K
              refine norm_ (a' := ?_) ?_ ?_
              rotate_left
              · show Act.put _ (some 33) _ = _
                simp only [Act.put, List.setIfInBounds_toArray, List.set_cons_zero, List.set_cons_succ, i64_w, i32_w]
                rfl
              exact norm_ (by simp only [putAll, Act.put, List.setIfInBounds_toArray, List.set_cons_zero, List.set_cons_succ]) (hCont (.slice AX1wq1 1 cX1wq1, u1wq2, .slice AX2wq3 1 cX2wq3, u2wq4) _ Mwq4.out)
            · skip
              refine Kd.R_lit_step (Kd.int .i64) _ 2 ?hg (N := 32) ?hd (xs := ([n] : List Int)) (inner := [.int .i64 n]) (ok := fun _ => True) (okp := fun _ => True) ?hr ?hp (fun _ hk => hk) trivial (Below.refl _ _) (Nat.le_refl _) (by simp) ?_; (case hd => rfl); (case hg => rfl); (case hr => first | (go_simp; done) | (go_simp; rfl)); (case hp => exact (Reps.one (show Kd.M (Kd.int .i64) _ _ _ n [.int .i64 n] from rfl) (Reps.none _ _)))
              intro X2wq5 wq5 ho hb hg_ hnew_
              clear hg_ hnew_
              have HX2wq5 := Aside0.mk ho
              have Mwq5 := Aside0.mk (Mwq1.out.on hb)
              have Cwq5 := Aside0.mk ((hb.block _ (blk_lt Cwq1.out)).trans Cwq1.out)
              have SXX2wq5 := Aside0.mk (show ∀ k, v1.ownBlock = some k → some k ≠ X2wq5.ownBlock from fun k hk e => (by have h1 := Kd.R_lt Mwq1.out.r1 k hk; have h2 := Kd.R_base ho k e.symm; omega))
              have HYwq5 := Aside0.mk (Kd.R_below HX1wq1.out hb)
              obtain ⟨AX2wq5, cX2wq5, eX2wq5⟩ : ∃ A c, X2wq5 = .slice A 1 c := Kd.R_slice ho
              subst eX2wq5
              clear ho hb
              refine hK.out _ _ ⟨Mwq5.out.k1, (blk_cell Cwq5.out 1).trans rfl⟩ (fun hHeld => ?_)
              clear hK K
              refine norm_ (a' := ?_) ?_ ?_
              rotate_left
              · show Act.put _ (some 32) _ = _
                simp only [Act.put, List.setIfInBounds_toArray, List.set_cons_zero, List.set_cons_succ, i64_w, i32_w]
                rfl
              refine one_ (i := 7) (N := some 28) #[true, true, true, true, true, true, true, true, true, true, true, true, false, false, false, false] rfl rfl (one_of HT_.out (by kernel_rfl)) (by decide) (fun K hK => ?_)
              refine Kd.R_append_rows_step (Kd.int .i64) (w0 := w) w.heap.size (by rfl) (.tmp 24) (.tmp 27) 49 2 (.int .i64 0) 8 rfl Tryd.underlying49 info2' rfl (by decide) (by omega) v1 y1 [n] AX1wq1 1 cX1wq1 (fun _ => True) (fun _ => False) (by rfl) (by rfl) Mwq5.out.r1 (Kd.R_reads' HYwq5.out).2.2 (fun _ _ h => h) (fun _ h => h.elim) (fun _ _ => trivial) Mwq5.out.b Mwq5.out.lt (by have := HYL.out; show (y1.length + 1) * 8 ≤ _; omega) ?_
              intro u1wq6 wq6 ho hb hg hat
              have HYwq6 := Aside0.mk (Kd.R_grown2 HX2wq5.out rfl hg SXX2wq5.out)
              have Mwq6 := Aside0.mk (Mwq5.out.grow1 ho hb hg hat)
              have Cwq6 := Aside0.mk (blk_grown Cwq5.out hg (Kd.R_ne Mwq5.out.r1 Cwq5.out (by decide)))
              clear ho hb hg hat
              refine hK.out _ _ ⟨Mwq6.out.k1, (blk_cell Cwq6.out 1).trans rfl⟩ (fun hHeld => ?_)
              clear hK K
              refine norm_ (a' := ?_) ?_ ?_
              rotate_left
              · show Act.put _ (some 28) _ = _
                simp only [Act.put, List.setIfInBounds_toArray, List.set_cons_zero, List.set_cons_succ, i64_w, i32_w]
                rfl
              refine pure_ (i := 13) (N := some 34) (v := ?_) (a' := ?_) #[true, true, true, true, true, true, true, true, true, true, true, true, false, true, false, false] rfl rfl (any_of HT_.out (by kernel_rfl)) (fun _ _ _ h => h) (Or.inl ⟨by rfl, ?_⟩) ?_ ?_
              rotate_left
              · intro w'
                go_simp
                with_reducible rfl
              rotate_left
              · simp only [Act.put, List.setIfInBounds_toArray, List.set_cons_zero, List.set_cons_succ, i64_w, i32_w]
                rfl
              refine one_ (i := 12) (N := some 33) #[true, true, true, true, true, true, true, true, true, true, true, true, true, true, false, false] rfl rfl (one_of HT_.out (by kernel_rfl)) (by decide) (fun K hK => ?_)
              refine Kd.R_append_rows_step (Kd.int .i64) (w0 := w) w.heap.size (by rfl) (.tmp 29) (.tmp 32) 49 2 (.int .i64 0) 8 rfl Tryd.underlying49 info2' rfl (by decide) (by omega) va ya [n] AX2wq5 1 cX2wq5 (fun _ => True) (fun _ => False) (by rfl) (by rfl) Mwq6.out.ra (Kd.R_reads' HYwq6.out).2.2 (fun _ _ h => h) (fun _ h => h.elim) (fun _ _ => trivial) Mwq6.out.b Mwq6.out.lt (by have := HYL.out; show (ya.length + 1) * 8 ≤ _; omega) ?_
              intro u2wq7 wq7 ho hb hg hat
              have Mwq7 := Aside0.mk (Mwq6.out.growa ho hb hg hat)
              have Cwq7 := Aside0.mk (blk_grown Cwq6.out hg (Kd.R_ne Mwq6.out.ra Cwq6.out (by decide)))
              clear ho hb hg hat
              refine hK.out _ _ ⟨Mwq7.out.k1, (blk_cell Cwq7.out 1).trans rfl⟩ (fun hHeld => ?_)
              clear hK K
              refine norm_ (a' := ?_) ?_ ?_
              rotate_left
              · show Act.put _ (some 33) _ = _
                simp only [Act.put, List.setIfInBounds_toArray, List.set_cons_zero, List.set_cons_succ, i64_w, i32_w]
                rfl
              exact norm_ (by simp only [putAll, Act.put, List.setIfInBounds_toArray, List.set_cons_zero, List.set_cons_succ]) (hCont (.slice AX1wq1 1 cX1wq1, u1wq6, .slice AX2wq5 1 cX2wq5, u2wq7) _ Mwq7.out)
          · skip
            refine Kd.R_lit_step (Kd.int .i64) _ 2 ?hg (N := 32) ?hd (xs := ([n] : List Int)) (inner := [.int .i64 n]) (ok := fun _ => True) (okp := fun _ => True) ?hr ?hp (fun _ hk => hk) trivial (Below.refl _ _) (Nat.le_refl _) (by simp) ?_; (case hd => rfl); (case hg => rfl); (case hr => first | (go_simp; done) | (go_simp; rfl)); (case hp => exact (Reps.one (show Kd.M (Kd.int .i64) _ _ _ n [.int .i64 n] from rfl) (Reps.none _ _)))
            intro X2wq8 wq8 ho hb hg_ hnew_
            clear hg_ hnew_
            have HX2wq8 := Aside0.mk ho
            have Mwq8 := Aside0.mk (M0.out.on hb)
            have Cwq8 := Aside0.mk ((hb.block _ (blk_lt C0.out)).trans C0.out)
            have SXX2wq8 := Aside0.mk (show ∀ k, v1.ownBlock = some k → some k ≠ X2wq8.ownBlock from fun k hk e => (by have h1 := Kd.R_lt M0.out.r1 k hk; have h2 := Kd.R_base ho k e.symm; omega))
            obtain ⟨AX2wq8, cX2wq8, eX2wq8⟩ : ∃ A c, X2wq8 = .slice A 1 c := Kd.R_slice ho
            subst eX2wq8
            clear ho hb
            refine hK.out _ _ ⟨Mwq8.out.k1, (blk_cell Cwq8.out 1).trans rfl⟩ (fun hHeld => ?_)
            clear hK K
            refine norm_ (a' := ?_) ?_ ?_
            rotate_left
            · show Act.put _ (some 32) _ = _
              simp only [Act.put, List.setIfInBounds_toArray, List.set_cons_zero, List.set_cons_succ, i64_w, i32_w]
              rfl
            refine one_ (i := 6) (N := some 27) #[true, true, true, true, true, true, true, false, true, true, true, true, false, false, false, false] rfl rfl (one_of HT_.out (by kernel_rfl)) (by decide) (fun K hK => ?_)
            refine Kd.R_lit_step (Kd.int .i64) _ 2 ?hg (N := 27) ?hd (xs := ([n] : List Int)) (inner := [.int .i64 n]) (ok := fun _ => True) (okp := fun _ => True) ?hr ?hp (fun _ hk => hk) trivial (Below.refl _ _) (Nat.le_refl _) (by simp) ?_; (case hd => rfl); (case hg => rfl); (case hr => first | (go_simp; done) | (go_simp; rfl)); (case hp => exact (Reps.one (show Kd.M (Kd.int .i64) _ _ _ n [.int .i64 n] from rfl) (Reps.none _ _)))
            intro X1wq9 wq9 ho hb hg_ hnew_
            clear hg_ hnew_
            have HX1wq9 := Aside0.mk ho
            have Mwq9 := Aside0.mk (Mwq8.out.on hb)
            have Cwq9 := Aside0.mk ((hb.block _ (blk_lt Cwq8.out)).trans Cwq8.out)
            have HYwq9 := Aside0.mk (Kd.R_below HX2wq8.out hb)
            obtain ⟨AX1wq9, cX1wq9, eX1wq9⟩ : ∃ A c, X1wq9 = .slice A 1 c := Kd.R_slice ho
            subst eX1wq9
            clear ho hb
            refine hK.out _ _ ⟨Mwq9.out.k1, (blk_cell Cwq9.out 1).trans rfl⟩ (fun hHeld => ?_)
            clear hK K
            refine norm_ (a' := ?_) ?_ ?_
            rotate_left
            · show Act.put _ (some 27) _ = _
              simp only [Act.put, List.setIfInBounds_toArray, List.set_cons_zero, List.set_cons_succ, i64_w, i32_w]
              rfl
            refine one_ (i := 7) (N := some 28) #[true, true, true, true, true, true, true, true, true, true, true, true, false, false, false, false] rfl rfl (one_of HT_.out (by kernel_rfl)) (by decide) (fun K hK => ?_)
            refine Kd.R_append_rows_step (Kd.int .i64) (w0 := w) w.heap.size (by rfl) (.tmp 24) (.tmp 27) 49 2 (.int .i64 0) 8 rfl Tryd.underlying49 info2' rfl (by decide) (by omega) v1 y1 [n] AX1wq9 1 cX1wq9 (fun _ => True) (fun _ => False) (by rfl) (by rfl) Mwq9.out.r1 (Kd.R_reads' HX1wq9.out).2.2 (fun _ _ h => h) (fun _ h => h.elim) (fun _ _ => trivial) Mwq9.out.b Mwq9.out.lt (by have := HYL.out; show (y1.length + 1) * 8 ≤ _; omega) ?_
            intro u1wq10 wq10 ho hb hg hat
            have HYwq10 := Aside0.mk (Kd.R_grown2 HYwq9.out rfl hg SXX2wq8.out)
            have Mwq10 := Aside0.mk (Mwq9.out.grow1 ho hb hg hat)
            have Cwq10 := Aside0.mk (blk_grown Cwq9.out hg (Kd.R_ne Mwq9.out.r1 Cwq9.out (by decide)))
            clear ho hb hg hat
            refine hK.out _ _ ⟨Mwq10.out.k1, (blk_cell Cwq10.out 1).trans rfl⟩ (fun hHeld => ?_)
            clear hK K
            refine norm_ (a' := ?_) ?_ ?_
            rotate_left
            · show Act.put _ (some 28) _ = _
              simp only [Act.put, List.setIfInBounds_toArray, List.set_cons_zero, List.set_cons_succ, i64_w, i32_w]
              rfl
            refine pure_ (i := 13) (N := some 34) (v := ?_) (a' := ?_) #[true, true, true, true, true, true, true, true, true, true, true, true, false, true, false, false] rfl rfl (any_of HT_.out (by kernel_rfl)) (fun _ _ _ h => h) (Or.inl ⟨by rfl, ?_⟩) ?_ ?_
            rotate_left
            · intro w'
              go_simp
              with_reducible rfl
            rotate_left
            · simp only [Act.put, List.setIfInBounds_toArray, List.set_cons_zero, List.set_cons_succ, i64_w, i32_w]
              rfl
            refine one_ (i := 12) (N := some 33) #[true, true, true, true, true, true, true, true, true, true, true, true, true, true, false, false] rfl rfl (one_of HT_.out (by kernel_rfl)) (by decide) (fun K hK => ?_)
            refine Kd.R_append_rows_step (Kd.int .i64) (w0 := w) w.heap.size (by rfl) (.tmp 29) (.tmp 32) 49 2 (.int .i64 0) 8 rfl Tryd.underlying49 info2' rfl (by decide) (by omega) va ya [n] AX2wq8 1 cX2wq8 (fun _ => True) (fun _ => False) (by rfl) (by rfl) Mwq10.out.ra (Kd.R_reads' HYwq10.out).2.2 (fun _ _ h => h) (fun _ h => h.elim) (fun _ _ => trivial) Mwq10.out.b Mwq10.out.lt (by have := HYL.out; show (ya.length + 1) * 8 ≤ _; omega) ?_
            intro u2wq11 wq11 ho hb hg hat
            have Mwq11 := Aside0.mk (Mwq10.out.growa ho hb hg hat)
            have Cwq11 := Aside0.mk (blk_grown Cwq10.out hg (Kd.R_ne Mwq10.out.ra Cwq10.out (by decide)))
            clear ho hb hg hat
            refine hK.out _ _ ⟨Mwq11.out.k1, (blk_cell Cwq11.out 1).trans rfl⟩ (fun hHeld => ?_)
            clear hK K
            refine norm_ (a' := ?_) ?_ ?_
            rotate_left
            · show Act.put _ (some 33) _ = _
              simp only [Act.put, List.setIfInBounds_toArray, List.set_cons_zero, List.set_cons_succ, i64_w, i32_w]
              rfl
            exact norm_ (by simp only [putAll, Act.put, List.setIfInBounds_toArray, List.set_cons_zero, List.set_cons_succ]) (hCont (.slice AX1wq9 1 cX1wq9, u1wq10, .slice AX2wq8 1 cX2wq8, u2wq11) _ Mwq11.out)
        rintro ⟨x27, x28, x32, x33⟩ wj hMS
        replace hMS : MS w.heap.size w wj g v0 v1 v0 x28 x33 y0 (y1 ++ [n]) (ya ++ [n]) := hMS
        obtain ⟨A28, c28, e28⟩ : ∃ A c, x28 = .slice A (y1.length + 1) c := by obtain ⟨A, c, e⟩ := Kd.R_slice hMS.r1; exact ⟨A, c, by rw [e, List.length_append]; rfl⟩
        subst e28
        have MJ := Aside0.mk hMS
        have jf := hMS.f 1
        have jk := hMS.k1
        clear hMS
        simp only [putAll, Act.put, List.setIfInBounds_toArray, List.set_cons_zero, List.set_cons_succ]
        refine last_ (i := 14) (N := none) #[true, true, true, true, true, true, true, true, true, true, true, true, true, true, true, false] rfl rfl (one_of HT_.out (by kernel_rfl)) (by decide) (fun K hK => ?_)
        refine skip_ (w1 := ?_) (by rfl) rfl ?_ ?_
        rotate_left
        · go_simp
          with_reducible rfl
        refine hK.out _ _ ?_
        clear hK K
        refine pure_ (i := 15) (N := some 6) (v := ?_) (a' := ?_) #[true, true, true, true, true, true, true, true, true, true, true, true, true, true, true, true] rfl rfl (any_of HT_.out (by kernel_rfl)) (fun _ _ _ h => h) (Or.inl ⟨by rfl, ?_⟩) ?_ ?_
        rotate_left
        · intro w'
          go_simp
          with_reducible rfl
        rotate_left
        · simp only [Act.put, List.setIfInBounds_toArray, List.set_cons_zero, List.set_cons_succ, i64_w, i32_w]
          rfl
        refine done_ (done_of HT_.out (by kernel_rfl)) ?_
        clear hHeld jk jf
        have MF := Aside0.mk (MJ.out.store1 (.slice A28 (y1.length + 1) c28))
        go_wp2_with fail
        go_roundw
        case rel => exact ⟨wrap64 (J + 1), k + 1, _, _, rfl, ⟨by rw [hwr, HJ.out]; rfl⟩, ⟨hlt⟩, ⟨by rw [HY2.out.1, HY2.out.2.1, HY2.out.2.2]; rw [if_neg (by decide), if_pos rfl, List.append_nil]; exact MF.out⟩⟩
        case measure =>
          have := HJ.out
          rw [hwr]
          simp [intOf]
          omega
      | false =>
        go_upto_region 9 with (first | ((with_reducible refine gate_dst (N := 8) rfl ?_); refine box_event ?hg (N := 8) ?hd (cs := #[.bool false, .int .i64 0]) (t := 51) ?hr ?_; (case hd => rfl); (case hg => rfl); (case hr => first | (go_simp; done) | (go_simp; rfl)); intro g8 hg wb8 hbox hb; have GE8 := Aside0.mk hg; have BK := Aside0.mk hbox; have HBX := Aside0.mk hb; clear hbox hb hg; have hz0 : wb8.cell? ⟨g8, 0, none⟩ = some (.bool false) := (blk_cell BK.out 0).trans rfl; have hz1 : wb8.cell? ⟨g8, 1, none⟩ = some (.int .i64 0) := (blk_cell BK.out 1).trans rfl; have hf0 := blk_frozen BK.out 0; have hf1 := blk_frozen BK.out 1) | fail)
        have hgE : wr.heap.size ≤ g8 := by rw [GE8.out]; exact Nat.le_refl _
        obtain ⟨w8, hw8⟩ : ∃ W, W = (wb8.setCell ⟨g8, 0, none⟩ (.bool false)).setCell ⟨g8, 1, none⟩ (.int .i64 n) := ⟨_, rfl⟩
        have HM8 := Aside0.mk (show MS w.heap.size w w8 g v0 v1 v0 v1 va y0 y1 ya from HM.out.on (by rw [hw8]; exact below_set (below_set HBX.out hgE) hgE))
        have BK8 := Aside0.mk (show w8.heap[g8]? = some (.cells #[.bool false, .int .i64 n] 51 (0, 0)) by rw [hw8]; exact (blk_set (blk_set BK.out 0 _) 1 _).trans rfl)
        have hc8 : w8.cell? ⟨g8, 1, none⟩ = some (.int .i64 n) := (blk_cell BK8.out 1).trans rfl
        rw [← hw8]
        clear hw8 HBX BK hz0 hz1 hf0 hf1 HM hx0 hx1 hgE GE8
        refine start_ (n := 16) (S := (fun w' => w'.cell? ⟨g, 0, none⟩ = some v0 ∧ w'.cell? ⟨g8, 1, none⟩ = some (.int .i64 n))) (ds := [14]) #[false, false, false, false, false, false, false, false, false, false, false, false, false, false, false, false] (by kernel_rfl) rfl rfl ⟨HM8.out.k0, hc8⟩ (fun hHeld => ?_)
        refine with_tabW m9_tab m9_bits (fun HT_ HW_ => ?_)
        have M0 := Aside0.mk (HM8.out.on (below_drew (Below.refl _ _)))
        have C0 := Aside0.mk (((below_drew (Below.refl w8.heap.size w8)).block _ (blk_lt BK8.out)).trans BK8.out)
        clear HM8
        generalize w8.drew = wy at M0 C0 hHeld ⊢
        refine pure_ (i := 0) (N := some 21) (v := ?_) (a' := ?_) #[true, false, false, false, false, false, false, false, false, false, false, false, false, false, false, false] rfl rfl (any_of HT_.out (by kernel_rfl)) (fun _ _ _ h => h) (Or.inl ⟨by rfl, ?_⟩) ?_ ?_
        rotate_left
        · intro w'
          go_simp
          with_reducible rfl
        rotate_left
        · simp only [Act.put, List.setIfInBounds_toArray, List.set_cons_zero, List.set_cons_succ, i64_w, i32_w]
          rfl
        refine pure_ (i := 1) (N := some 22) (v := ?_) (a' := ?_) #[true, true, false, false, false, false, false, false, false, false, false, false, false, false, false, false] rfl rfl (any_of HT_.out (by kernel_rfl)) (fun _ _ _ h => h) (Or.inl ⟨by rfl, ?_⟩) ?_ ?_
        rotate_left
        · intro w'
          go_simp
          with_reducible rfl
        rotate_left
        · simp only [Act.put, List.setIfInBounds_toArray, List.set_cons_zero, List.set_cons_succ, i64_w, i32_w]
          rfl
        refine pure_ (i := 2) (N := some 23) (v := ?_) (a' := ?_) #[true, true, true, false, false, false, false, false, false, false, false, false, false, false, false, false] rfl rfl (any_of HT_.out (by kernel_rfl)) (fun _ _ _ h => h) (Or.inl ⟨by rfl, ?_⟩) ?_ ?_
        rotate_left
        · intro w'
          go_simp
          with_reducible rfl
        rotate_left
        · simp only [Act.put, List.setIfInBounds_toArray, List.set_cons_zero, List.set_cons_succ, i64_w, i32_w]
          rfl
        refine pure_ (i := 4) (N := some 25) (v := ?_) (a' := ?_) #[true, true, true, false, true, false, false, false, false, false, false, false, false, false, false, false] rfl rfl (any_of HT_.out (by kernel_rfl)) (fun _ _ _ h => h) (Or.inl ⟨by rfl, ?_⟩) ?_ ?_
        rotate_left
        · intro w'
          go_simp
          with_reducible rfl
        rotate_left
        · simp only [Act.put, List.setIfInBounds_toArray, List.set_cons_zero, List.set_cons_succ, i64_w, i32_w]
          rfl
        refine pure_ (i := 8) (N := some 29) (v := ?_) (a' := ?_) #[true, true, true, false, true, false, false, false, true, false, false, false, false, false, false, false] rfl rfl (any_of HT_.out (by kernel_rfl)) (fun _ _ _ h => h) (Or.inl ⟨by rfl, ?_⟩) ?_ ?_
        rotate_left
        · intro w'
          go_simp
          with_reducible rfl
        rotate_left
        · simp only [Act.put, List.setIfInBounds_toArray, List.set_cons_zero, List.set_cons_succ, i64_w, i32_w]
          rfl
        refine pure_ (i := 9) (N := some 30) (v := ?_) (a' := ?_) #[true, true, true, false, true, false, false, false, true, true, false, false, false, false, false, false] rfl rfl (any_of HT_.out (by kernel_rfl)) (fun _ _ _ h => h) (Or.inl ⟨by rfl, ?_⟩) ?_ ?_
        rotate_left
        · intro w'
          go_simp
          with_reducible rfl
        rotate_left
        · simp only [Act.put, List.setIfInBounds_toArray, List.set_cons_zero, List.set_cons_succ, i64_w, i32_w]
          rfl
        refine take_ (i := 3) (N := some 24) (v := ?_) (a' := ?_) #[true, true, true, true, true, false, false, false, true, true, false, false, false, false, false, false] rfl rfl (take_ofW HT_.out HW_.out (by kernel_rfl)) (fun _ _ _ h => h) (Or.inl ⟨by rfl, ?_⟩) hHeld ?_ ?_
        rotate_left
        · rintro w' ⟨s0, s1⟩
          go_simp
          with_reducible rfl
        rotate_left
        · simp only [Act.put, List.setIfInBounds_toArray, List.set_cons_zero, List.set_cons_succ, i64_w, i32_w]
          rfl
        refine take_ (i := 5) (N := some 26) (v := ?_) (a' := ?_) #[true, true, true, true, true, true, false, false, true, true, false, false, false, false, false, false] rfl rfl (take_ofW HT_.out HW_.out (by kernel_rfl)) (fun _ _ _ h => h) (Or.inl ⟨by rfl, ?_⟩) hHeld ?_ ?_
        rotate_left
        · rintro w' ⟨s0, s1⟩
          go_simp
          with_reducible rfl
        rotate_left
        · simp only [Act.put, List.setIfInBounds_toArray, List.set_cons_zero, List.set_cons_succ, i64_w, i32_w]
          rfl
        refine take_ (i := 10) (N := some 31) (v := ?_) (a' := ?_) #[true, true, true, true, true, true, false, false, true, true, true, false, false, false, false, false] rfl rfl (take_ofW HT_.out HW_.out (by kernel_rfl)) (fun _ _ _ h => h) (Or.inl ⟨by rfl, ?_⟩) hHeld ?_ ?_
        rotate_left
        · rintro w' ⟨s0, s1⟩
          go_simp
          with_reducible rfl
        rotate_left
        · simp only [Act.put, List.setIfInBounds_toArray, List.set_cons_zero, List.set_cons_succ, i64_w, i32_w]
          rfl
        refine join_ (σ := Value × Value × Value × Value) 2 #[true, true, true, true, true, true, true, true, true, true, true, true, true, true, false, false] (fun s => [(27, s.1), (28, s.2.1), (32, s.2.2.1), (33, s.2.2.2), (34, .pointer (some ⟨g, 0, none⟩))]) (fun s w' => MS w.heap.size w w' g v0 v1 s.2.1 v1 s.2.2.2 (y0 ++ [n]) y1 (ya ++ [n])) ?_ ?_
        rotate_left
        · intro hCont
          refine two_ (i := 6) (j := 11) (Ni := some 27) (Nj := some 32) #[true, true, true, true, true, true, true, false, true, true, true, false, false, false, false, false] #[true, true, true, true, true, true, false, false, true, true, true, true, false, false, false, false] rfl rfl rfl rfl (two_of HT_.out (by kernel_rfl)) (by decide) (by decide) (fun K hK => ?_) (fun K hK => ?_)
          · skip
            refine Kd.R_lit_step (Kd.int .i64) _ 2 ?hg (N := 27) ?hd (xs := ([n] : List Int)) (inner := [.int .i64 n]) (ok := fun _ => True) (okp := fun _ => True) ?hr ?hp (fun _ hk => hk) trivial (Below.refl _ _) (Nat.le_refl _) (by simp) ?_; (case hd => rfl); (case hg => rfl); (case hr => first | (go_simp; done) | (go_simp; rfl)); (case hp => exact (Reps.one (show Kd.M (Kd.int .i64) _ _ _ n [.int .i64 n] from rfl) (Reps.none _ _)))
            intro X1wq1 wq1 ho hb hg_ hnew_
            clear hg_ hnew_
            have HX1wq1 := Aside0.mk ho
            have Mwq1 := Aside0.mk (M0.out.on hb)
            have Cwq1 := Aside0.mk ((hb.block _ (blk_lt C0.out)).trans C0.out)
            obtain ⟨AX1wq1, cX1wq1, eX1wq1⟩ : ∃ A c, X1wq1 = .slice A 1 c := Kd.R_slice ho
            subst eX1wq1
            clear ho hb
            refine hK.out _ _ ⟨Mwq1.out.k0, (blk_cell Cwq1.out 1).trans rfl⟩ (fun hHeld => ?_)
            clear hK K
            refine norm_ (a' := ?_) ?_ ?_
            rotate_left
            · show Act.put _ (some 27) _ = _
              simp only [Act.put, List.setIfInBounds_toArray, List.set_cons_zero, List.set_cons_succ, i64_w, i32_w]
              rfl
            refine two_ (i := 7) (j := 11) (Ni := some 28) (Nj := some 32) #[true, true, true, true, true, true, true, true, true, true, true, false, false, false, false, false] #[true, true, true, true, true, true, true, false, true, true, true, true, false, false, false, false] rfl rfl rfl rfl (two_of HT_.out (by kernel_rfl)) (by decide) (by decide) (fun K hK => ?_) (fun K hK => ?_)
            · skip
              refine Kd.R_append_rows_step (Kd.int .i64) (w0 := w) w.heap.size (by rfl) (.tmp 24) (.tmp 27) 49 2 (.int .i64 0) 8 rfl Tryd.underlying49 info2' rfl (by decide) (by omega) v0 y0 [n] AX1wq1 1 cX1wq1 (fun _ => True) (fun _ => False) (by rfl) (by rfl) Mwq1.out.r0 (Kd.R_reads' HX1wq1.out).2.2 (fun _ _ h => h) (fun _ h => h.elim) (fun _ _ => trivial) Mwq1.out.b Mwq1.out.lt (by have := HYL.out; show (y0.length + 1) * 8 ≤ _; omega) ?_
              intro u1wq2 wq2 ho hb hg hat
              have Mwq2 := Aside0.mk (Mwq1.out.grow0 ho hb hg hat)
              have Cwq2 := Aside0.mk (blk_grown Cwq1.out hg (Kd.R_ne Mwq1.out.r0 Cwq1.out (by decide)))
              clear ho hb hg hat
              refine hK.out _ _ ⟨Mwq2.out.k0, (blk_cell Cwq2.out 1).trans rfl⟩ (fun hHeld => ?_)
              clear hK K
              refine norm_ (a' := ?_) ?_ ?_
              rotate_left
              · show Act.put _ (some 28) _ = _
                simp only [Act.put, List.setIfInBounds_toArray, List.set_cons_zero, List.set_cons_succ, i64_w, i32_w]
                rfl
              refine pure_ (i := 13) (N := some 34) (v := ?_) (a' := ?_) #[true, true, true, true, true, true, true, true, true, true, true, false, false, true, false, false] rfl rfl (any_of HT_.out (by kernel_rfl)) (fun _ _ _ h => h) (Or.inl ⟨by rfl, ?_⟩) ?_ ?_
              rotate_left
              · intro w'
                go_simp
                with_reducible rfl
              rotate_left
              · simp only [Act.put, List.setIfInBounds_toArray, List.set_cons_zero, List.set_cons_succ, i64_w, i32_w]
                rfl
              refine one_ (i := 11) (N := some 32) #[true, true, true, true, true, true, true, true, true, true, true, true, false, true, false, false] rfl rfl (one_of HT_.out (by kernel_rfl)) (by decide) (fun K hK => ?_)
              refine Kd.R_lit_step (Kd.int .i64) _ 2 ?hg (N := 32) ?hd (xs := ([n] : List Int)) (inner := [.int .i64 n]) (ok := fun _ => True) (okp := fun _ => True) ?hr ?hp (fun _ hk => hk) trivial (Below.refl _ _) (Nat.le_refl _) (by simp) ?_; (case hd => rfl); (case hg => rfl); (case hr => first | (go_simp; done) | (go_simp; rfl)); (case hp => exact (Reps.one (show Kd.M (Kd.int .i64) _ _ _ n [.int .i64 n] from rfl) (Reps.none _ _)))
              intro X2wq3 wq3 ho hb hg_ hnew_
              clear hg_ hnew_
              have HX2wq3 := Aside0.mk ho
              have Mwq3 := Aside0.mk (Mwq2.out.on hb)
              have Cwq3 := Aside0.mk ((hb.block _ (blk_lt Cwq2.out)).trans Cwq2.out)
              obtain ⟨AX2wq3, cX2wq3, eX2wq3⟩ : ∃ A c, X2wq3 = .slice A 1 c := Kd.R_slice ho
              subst eX2wq3
              clear ho hb
              refine hK.out _ _ ⟨Mwq3.out.k0, (blk_cell Cwq3.out 1).trans rfl⟩ (fun hHeld => ?_)
              clear hK K
              refine norm_ (a' := ?_) ?_ ?_
              rotate_left
              · show Act.put _ (some 32) _ = _
                simp only [Act.put, List.setIfInBounds_toArray, List.set_cons_zero, List.set_cons_succ, i64_w, i32_w]
                rfl
              refine one_ (i := 12) (N := some 33) #[true, true, true, true, true, true, true, true, true, true, true, true, true, true, false, false] rfl rfl (one_of HT_.out (by kernel_rfl)) (by decide) (fun K hK => ?_)
              refine Kd.R_append_rows_step (Kd.int .i64) (w0 := w) w.heap.size (by rfl) (.tmp 29) (.tmp 32) 49 2 (.int .i64 0) 8 rfl Tryd.underlying49 info2' rfl (by decide) (by omega) va ya [n] AX2wq3 1 cX2wq3 (fun _ => True) (fun _ => False) (by rfl) (by rfl) Mwq3.out.ra (Kd.R_reads' HX2wq3.out).2.2 (fun _ _ h => h) (fun _ h => h.elim) (fun _ _ => trivial) Mwq3.out.b Mwq3.out.lt (by have := HYL.out; show (ya.length + 1) * 8 ≤ _; omega) ?_
              intro u2wq4 wq4 ho hb hg hat
              have Mwq4 := Aside0.mk (Mwq3.out.growa ho hb hg hat)
              have Cwq4 := Aside0.mk (blk_grown Cwq3.out hg (Kd.R_ne Mwq3.out.ra Cwq3.out (by decide)))
              clear ho hb hg hat
              refine hK.out _ _ ⟨Mwq4.out.k0, (blk_cell Cwq4.out 1).trans rfl⟩ (fun hHeld => ?_)
              clear hK K
              refine norm_ (a' := ?_) ?_ ?_
              rotate_left
              · show Act.put _ (some 33) _ = _
                simp only [Act.put, List.setIfInBounds_toArray, List.set_cons_zero, List.set_cons_succ, i64_w, i32_w]
                rfl
              exact norm_ (by simp only [putAll, Act.put, List.setIfInBounds_toArray, List.set_cons_zero, List.set_cons_succ]) (hCont (.slice AX1wq1 1 cX1wq1, u1wq2, .slice AX2wq3 1 cX2wq3, u2wq4) _ Mwq4.out)
            · skip
              refine Kd.R_lit_step (Kd.int .i64) _ 2 ?hg (N := 32) ?hd (xs := ([n] : List Int)) (inner := [.int .i64 n]) (ok := fun _ => True) (okp := fun _ => True) ?hr ?hp (fun _ hk => hk) trivial (Below.refl _ _) (Nat.le_refl _) (by simp) ?_; (case hd => rfl); (case hg => rfl); (case hr => first | (go_simp; done) | (go_simp; rfl)); (case hp => exact (Reps.one (show Kd.M (Kd.int .i64) _ _ _ n [.int .i64 n] from rfl) (Reps.none _ _)))
              intro X2wq5 wq5 ho hb hg_ hnew_
              clear hg_ hnew_
              have HX2wq5 := Aside0.mk ho
              have Mwq5 := Aside0.mk (Mwq1.out.on hb)
              have Cwq5 := Aside0.mk ((hb.block _ (blk_lt Cwq1.out)).trans Cwq1.out)
              have SXX2wq5 := Aside0.mk (show ∀ k, v0.ownBlock = some k → some k ≠ X2wq5.ownBlock from fun k hk e => (by have h1 := Kd.R_lt Mwq1.out.r0 k hk; have h2 := Kd.R_base ho k e.symm; omega))
              have HYwq5 := Aside0.mk (Kd.R_below HX1wq1.out hb)
              obtain ⟨AX2wq5, cX2wq5, eX2wq5⟩ : ∃ A c, X2wq5 = .slice A 1 c := Kd.R_slice ho
              subst eX2wq5
              clear ho hb
              refine hK.out _ _ ⟨Mwq5.out.k0, (blk_cell Cwq5.out 1).trans rfl⟩ (fun hHeld => ?_)
              clear hK K
              refine norm_ (a' := ?_) ?_ ?_
              rotate_left
              · show Act.put _ (some 32) _ = _
                simp only [Act.put, List.setIfInBounds_toArray, List.set_cons_zero, List.set_cons_succ, i64_w, i32_w]
                rfl
              refine one_ (i := 7) (N := some 28) #[true, true, true, true, true, true, true, true, true, true, true, true, false, false, false, false] rfl rfl (one_of HT_.out (by kernel_rfl)) (by decide) (fun K hK => ?_)
              refine Kd.R_append_rows_step (Kd.int .i64) (w0 := w) w.heap.size (by rfl) (.tmp 24) (.tmp 27) 49 2 (.int .i64 0) 8 rfl Tryd.underlying49 info2' rfl (by decide) (by omega) v0 y0 [n] AX1wq1 1 cX1wq1 (fun _ => True) (fun _ => False) (by rfl) (by rfl) Mwq5.out.r0 (Kd.R_reads' HYwq5.out).2.2 (fun _ _ h => h) (fun _ h => h.elim) (fun _ _ => trivial) Mwq5.out.b Mwq5.out.lt (by have := HYL.out; show (y0.length + 1) * 8 ≤ _; omega) ?_
              intro u1wq6 wq6 ho hb hg hat
              have HYwq6 := Aside0.mk (Kd.R_grown2 HX2wq5.out rfl hg SXX2wq5.out)
              have Mwq6 := Aside0.mk (Mwq5.out.grow0 ho hb hg hat)
              have Cwq6 := Aside0.mk (blk_grown Cwq5.out hg (Kd.R_ne Mwq5.out.r0 Cwq5.out (by decide)))
              clear ho hb hg hat
              refine hK.out _ _ ⟨Mwq6.out.k0, (blk_cell Cwq6.out 1).trans rfl⟩ (fun hHeld => ?_)
              clear hK K
              refine norm_ (a' := ?_) ?_ ?_
              rotate_left
              · show Act.put _ (some 28) _ = _
                simp only [Act.put, List.setIfInBounds_toArray, List.set_cons_zero, List.set_cons_succ, i64_w, i32_w]
                rfl
              refine pure_ (i := 13) (N := some 34) (v := ?_) (a' := ?_) #[true, true, true, true, true, true, true, true, true, true, true, true, false, true, false, false] rfl rfl (any_of HT_.out (by kernel_rfl)) (fun _ _ _ h => h) (Or.inl ⟨by rfl, ?_⟩) ?_ ?_
              rotate_left
              · intro w'
                go_simp
                with_reducible rfl
              rotate_left
              · simp only [Act.put, List.setIfInBounds_toArray, List.set_cons_zero, List.set_cons_succ, i64_w, i32_w]
                rfl
              refine one_ (i := 12) (N := some 33) #[true, true, true, true, true, true, true, true, true, true, true, true, true, true, false, false] rfl rfl (one_of HT_.out (by kernel_rfl)) (by decide) (fun K hK => ?_)
              refine Kd.R_append_rows_step (Kd.int .i64) (w0 := w) w.heap.size (by rfl) (.tmp 29) (.tmp 32) 49 2 (.int .i64 0) 8 rfl Tryd.underlying49 info2' rfl (by decide) (by omega) va ya [n] AX2wq5 1 cX2wq5 (fun _ => True) (fun _ => False) (by rfl) (by rfl) Mwq6.out.ra (Kd.R_reads' HYwq6.out).2.2 (fun _ _ h => h) (fun _ h => h.elim) (fun _ _ => trivial) Mwq6.out.b Mwq6.out.lt (by have := HYL.out; show (ya.length + 1) * 8 ≤ _; omega) ?_
              intro u2wq7 wq7 ho hb hg hat
              have Mwq7 := Aside0.mk (Mwq6.out.growa ho hb hg hat)
              have Cwq7 := Aside0.mk (blk_grown Cwq6.out hg (Kd.R_ne Mwq6.out.ra Cwq6.out (by decide)))
              clear ho hb hg hat
              refine hK.out _ _ ⟨Mwq7.out.k0, (blk_cell Cwq7.out 1).trans rfl⟩ (fun hHeld => ?_)
              clear hK K
              refine norm_ (a' := ?_) ?_ ?_
              rotate_left
              · show Act.put _ (some 33) _ = _
                simp only [Act.put, List.setIfInBounds_toArray, List.set_cons_zero, List.set_cons_succ, i64_w, i32_w]
                rfl
              exact norm_ (by simp only [putAll, Act.put, List.setIfInBounds_toArray, List.set_cons_zero, List.set_cons_succ]) (hCont (.slice AX1wq1 1 cX1wq1, u1wq6, .slice AX2wq5 1 cX2wq5, u2wq7) _ Mwq7.out)
          · skip
            refine Kd.R_lit_step (Kd.int .i64) _ 2 ?hg (N := 32) ?hd (xs := ([n] : List Int)) (inner := [.int .i64 n]) (ok := fun _ => True) (okp := fun _ => True) ?hr ?hp (fun _ hk => hk) trivial (Below.refl _ _) (Nat.le_refl _) (by simp) ?_; (case hd => rfl); (case hg => rfl); (case hr => first | (go_simp; done) | (go_simp; rfl)); (case hp => exact (Reps.one (show Kd.M (Kd.int .i64) _ _ _ n [.int .i64 n] from rfl) (Reps.none _ _)))
            intro X2wq8 wq8 ho hb hg_ hnew_
            clear hg_ hnew_
            have HX2wq8 := Aside0.mk ho
            have Mwq8 := Aside0.mk (M0.out.on hb)
            have Cwq8 := Aside0.mk ((hb.block _ (blk_lt C0.out)).trans C0.out)
            have SXX2wq8 := Aside0.mk (show ∀ k, v0.ownBlock = some k → some k ≠ X2wq8.ownBlock from fun k hk e => (by have h1 := Kd.R_lt M0.out.r0 k hk; have h2 := Kd.R_base ho k e.symm; omega))
            obtain ⟨AX2wq8, cX2wq8, eX2wq8⟩ : ∃ A c, X2wq8 = .slice A 1 c := Kd.R_slice ho
            subst eX2wq8
            clear ho hb
            refine hK.out _ _ ⟨Mwq8.out.k0, (blk_cell Cwq8.out 1).trans rfl⟩ (fun hHeld => ?_)
            clear hK K
            refine norm_ (a' := ?_) ?_ ?_
            rotate_left
            · show Act.put _ (some 32) _ = _
              simp only [Act.put, List.setIfInBounds_toArray, List.set_cons_zero, List.set_cons_succ, i64_w, i32_w]
              rfl
            refine one_ (i := 6) (N := some 27) #[true, true, true, true, true, true, true, false, true, true, true, true, false, false, false, false] rfl rfl (one_of HT_.out (by kernel_rfl)) (by decide) (fun K hK => ?_)
            refine Kd.R_lit_step (Kd.int .i64) _ 2 ?hg (N := 27) ?hd (xs := ([n] : List Int)) (inner := [.int .i64 n]) (ok := fun _ => True) (okp := fun _ => True) ?hr ?hp (fun _ hk => hk) trivial (Below.refl _ _) (Nat.le_refl _) (by simp) ?_; (case hd => rfl); (case hg => rfl); (case hr => first | (go_simp; done) | (go_simp; rfl)); (case hp => exact (Reps.one (show Kd.M (Kd.int .i64) _ _ _ n [.int .i64 n] from rfl) (Reps.none _ _)))
            intro X1wq9 wq9 ho hb hg_ hnew_
            clear hg_ hnew_
            have HX1wq9 := Aside0.mk ho
            have Mwq9 := Aside0.mk (Mwq8.out.on hb)
            have Cwq9 := Aside0.mk ((hb.block _ (blk_lt Cwq8.out)).trans Cwq8.out)
            have HYwq9 := Aside0.mk (Kd.R_below HX2wq8.out hb)
            obtain ⟨AX1wq9, cX1wq9, eX1wq9⟩ : ∃ A c, X1wq9 = .slice A 1 c := Kd.R_slice ho
            subst eX1wq9
            clear ho hb
            refine hK.out _ _ ⟨Mwq9.out.k0, (blk_cell Cwq9.out 1).trans rfl⟩ (fun hHeld => ?_)
            clear hK K
            refine norm_ (a' := ?_) ?_ ?_
            rotate_left
            · show Act.put _ (some 27) _ = _
              simp only [Act.put, List.setIfInBounds_toArray, List.set_cons_zero, List.set_cons_succ, i64_w, i32_w]
              rfl
            refine one_ (i := 7) (N := some 28) #[true, true, true, true, true, true, true, true, true, true, true, true, false, false, false, false] rfl rfl (one_of HT_.out (by kernel_rfl)) (by decide) (fun K hK => ?_)
            refine Kd.R_append_rows_step (Kd.int .i64) (w0 := w) w.heap.size (by rfl) (.tmp 24) (.tmp 27) 49 2 (.int .i64 0) 8 rfl Tryd.underlying49 info2' rfl (by decide) (by omega) v0 y0 [n] AX1wq9 1 cX1wq9 (fun _ => True) (fun _ => False) (by rfl) (by rfl) Mwq9.out.r0 (Kd.R_reads' HX1wq9.out).2.2 (fun _ _ h => h) (fun _ h => h.elim) (fun _ _ => trivial) Mwq9.out.b Mwq9.out.lt (by have := HYL.out; show (y0.length + 1) * 8 ≤ _; omega) ?_
            intro u1wq10 wq10 ho hb hg hat
            have HYwq10 := Aside0.mk (Kd.R_grown2 HYwq9.out rfl hg SXX2wq8.out)
            have Mwq10 := Aside0.mk (Mwq9.out.grow0 ho hb hg hat)
            have Cwq10 := Aside0.mk (blk_grown Cwq9.out hg (Kd.R_ne Mwq9.out.r0 Cwq9.out (by decide)))
            clear ho hb hg hat
            refine hK.out _ _ ⟨Mwq10.out.k0, (blk_cell Cwq10.out 1).trans rfl⟩ (fun hHeld => ?_)
            clear hK K
            refine norm_ (a' := ?_) ?_ ?_
            rotate_left
            · show Act.put _ (some 28) _ = _
              simp only [Act.put, List.setIfInBounds_toArray, List.set_cons_zero, List.set_cons_succ, i64_w, i32_w]
              rfl
            refine pure_ (i := 13) (N := some 34) (v := ?_) (a' := ?_) #[true, true, true, true, true, true, true, true, true, true, true, true, false, true, false, false] rfl rfl (any_of HT_.out (by kernel_rfl)) (fun _ _ _ h => h) (Or.inl ⟨by rfl, ?_⟩) ?_ ?_
            rotate_left
            · intro w'
              go_simp
              with_reducible rfl
            rotate_left
            · simp only [Act.put, List.setIfInBounds_toArray, List.set_cons_zero, List.set_cons_succ, i64_w, i32_w]
              rfl
            refine one_ (i := 12) (N := some 33) #[true, true, true, true, true, true, true, true, true, true, true, true, true, true, false, false] rfl rfl (one_of HT_.out (by kernel_rfl)) (by decide) (fun K hK => ?_)
            refine Kd.R_append_rows_step (Kd.int .i64) (w0 := w) w.heap.size (by rfl) (.tmp 29) (.tmp 32) 49 2 (.int .i64 0) 8 rfl Tryd.underlying49 info2' rfl (by decide) (by omega) va ya [n] AX2wq8 1 cX2wq8 (fun _ => True) (fun _ => False) (by rfl) (by rfl) Mwq10.out.ra (Kd.R_reads' HYwq10.out).2.2 (fun _ _ h => h) (fun _ h => h.elim) (fun _ _ => trivial) Mwq10.out.b Mwq10.out.lt (by have := HYL.out; show (ya.length + 1) * 8 ≤ _; omega) ?_
            intro u2wq11 wq11 ho hb hg hat
            have Mwq11 := Aside0.mk (Mwq10.out.growa ho hb hg hat)
            have Cwq11 := Aside0.mk (blk_grown Cwq10.out hg (Kd.R_ne Mwq10.out.ra Cwq10.out (by decide)))
            clear ho hb hg hat
            refine hK.out _ _ ⟨Mwq11.out.k0, (blk_cell Cwq11.out 1).trans rfl⟩ (fun hHeld => ?_)
            clear hK K
            refine norm_ (a' := ?_) ?_ ?_
            rotate_left
            · show Act.put _ (some 33) _ = _
              simp only [Act.put, List.setIfInBounds_toArray, List.set_cons_zero, List.set_cons_succ, i64_w, i32_w]
              rfl
            exact norm_ (by simp only [putAll, Act.put, List.setIfInBounds_toArray, List.set_cons_zero, List.set_cons_succ]) (hCont (.slice AX1wq9 1 cX1wq9, u1wq10, .slice AX2wq8 1 cX2wq8, u2wq11) _ Mwq11.out)
        rintro ⟨x27, x28, x32, x33⟩ wj hMS
        replace hMS : MS w.heap.size w wj g v0 v1 x28 v1 x33 (y0 ++ [n]) y1 (ya ++ [n]) := hMS
        obtain ⟨A28, c28, e28⟩ : ∃ A c, x28 = .slice A (y0.length + 1) c := by obtain ⟨A, c, e⟩ := Kd.R_slice hMS.r0; exact ⟨A, c, by rw [e, List.length_append]; rfl⟩
        subst e28
        have MJ := Aside0.mk hMS
        have jf := hMS.f 0
        have jk := hMS.k0
        clear hMS
        simp only [putAll, Act.put, List.setIfInBounds_toArray, List.set_cons_zero, List.set_cons_succ]
        refine last_ (i := 14) (N := none) #[true, true, true, true, true, true, true, true, true, true, true, true, true, true, true, false] rfl rfl (one_of HT_.out (by kernel_rfl)) (by decide) (fun K hK => ?_)
        refine skip_ (w1 := ?_) (by rfl) rfl ?_ ?_
        rotate_left
        · go_simp
          with_reducible rfl
        refine hK.out _ _ ?_
        clear hK K
        refine pure_ (i := 15) (N := some 6) (v := ?_) (a' := ?_) #[true, true, true, true, true, true, true, true, true, true, true, true, true, true, true, true] rfl rfl (any_of HT_.out (by kernel_rfl)) (fun _ _ _ h => h) (Or.inl ⟨by rfl, ?_⟩) ?_ ?_
        rotate_left
        · intro w'
          go_simp
          with_reducible rfl
        rotate_left
        · simp only [Act.put, List.setIfInBounds_toArray, List.set_cons_zero, List.set_cons_succ, i64_w, i32_w]
          rfl
        refine done_ (done_of HT_.out (by kernel_rfl)) ?_
        clear hHeld jk jf
        have MF := Aside0.mk (MJ.out.store0 (.slice A28 (y0.length + 1) c28))
        go_wp2_with fail
        go_roundw
        case rel => exact ⟨wrap64 (J + 1), k + 1, _, _, rfl, ⟨by rw [hwr, HJ.out]; rfl⟩, ⟨hlt⟩, ⟨by rw [HY2.out.1, HY2.out.2.1, HY2.out.2.2]; rw [if_pos rfl, if_neg (by decide), List.append_nil]; exact MF.out⟩⟩
        case measure =>
          have := HJ.out
          rw [hwr]
          simp [intOf]
          omega
    · have tlt : decide (J < (L : Int)) = false := decide_eq_false (by have := HJ.out; omega)
      have hk : k = L := by have := HK.out; omega
      rw [hk, HLL.out, List.take_length] at HM
      clear hk hlt HJ HK
      obtain ⟨y0, hy0⟩ : ∃ y, y = nb false l := ⟨_, rfl⟩
      obtain ⟨y1, hy1⟩ : ∃ y, y = nb true l := ⟨_, rfl⟩
      obtain ⟨ya, hya⟩ : ∃ y, y = nal l := ⟨_, rfl⟩
      have HYL := Aside0.mk (show y0.length ≤ 100 ∧ y1.length ≤ 100 ∧ ya.length ≤ 100 by
        have h1 := nb_len false l
        have h2 := nb_len true l
        have h3 : (nal l).length = l.length := List.length_map ..
        rw [hy0, hy1, hya]
        have := HL2.out
        have := HLL.out
        omega)
      have HYI := Aside0.mk (show Mp.In y0 ∧ Mp.In y1 ∧ Mp.In ya by
        rw [hy0, hy1, hya]
        exact ⟨nb_in _ _ HIN.out, nb_in _ _ HIN.out, HIN.out⟩)
      rw [← hy0, ← hy1, ← hya] at HM
      have HT2 := Aside0.mk (show T = if which = 2 then (((⟨#[27, 91]⟩ : ByteArray) ++ mkT (decide (0 < y1.length))) ++ numT ya) ++ ⟨#[110]⟩ else part (part ⟨#[]⟩ false which y0) true which y1 by
        rw [HT.out, hy0, hy1, hya]
        rfl)
      rw [← hva] at HM ⊢
      clear hy0 hy1 hya HT hva
      by_cases h2 : which = 2
      · subst h2
        rw [if_pos rfl] at HT2
        obtain ⟨n1, hn1⟩ : ∃ n, n = y1.length := ⟨_, rfl⟩
        obtain ⟨na, hna⟩ : ∃ n, n = ya.length := ⟨_, rfl⟩
        obtain ⟨A1, q1, e1⟩ := Kd.R_slice HM.out.r1
        obtain ⟨Aa, qa, ea⟩ := Kd.R_slice HM.out.ra
        rw [← hn1] at e1
        rw [← hna] at ea
        subst e1 ea
        rw [← hn1] at HT2
        obtain ⟨mk, hmk⟩ : ∃ m, m = mkT (decide (0 < n1)) := ⟨_, rfl⟩
        obtain ⟨nm, hnm⟩ : ∃ m, m = numT ya := ⟨_, rfl⟩
        rw [← hmk, ← hnm] at HT2
        have smk : mk.size ≤ 1 := by rw [hmk]; exact mk_size _
        have snm : nm.size ≤ 2200 := by rw [hnm]; exact num_size _ HYL.out.2.2 HYI.out.2.2
        have HMK := Aside0.mk (show spec_Mode_mark.f (decide ((0 : Int) < (n1 : Int))) 0 = some mk by
          rw [hmk, mk_f]
          congr 2
          simp)
        have HNF := Aside0.mk (show spec_madeNumbers.f 400 ya ⟨#[59]⟩ = some nm by rw [hnm]; exact numbers _ _ HYL.out.2.2 HYI.out.2.2 rfl 400 (by omega))
        have hk1 := HM.out.k1
        obtain ⟨bb, hbb⟩ : ∃ b, b = decide ((0 : Int) < (n1 : Int)) := ⟨_, rfl⟩
        rw [← hbb] at HMK
        have HBB := Aside0.mk hbb
        have hbb2 : decide (0 < n1) = bb := by rw [hbb]; simp
        have hbb1 : decide ((0 : Int) < (n1 : Int)) = bb := hbb.symm
        have HNA := Aside0.mk hna
        clear hmk hnm hbb hn1 hna
        go_wp2_with fail
        refine (spec_Mode_mark.calls bb 0 mk _ HMK.out).mono ?_
        rintro e w5 ⟨rfl, hb5⟩
        have HM5 := Aside0.mk (HM.out.on hb5)
        clear hb5 hk1
        go_wp2_with fail
        refine (show Calls Tryd.prog 16 #[.slice Aa na qa, .string ⟨#[59]⟩] w5 fun e w' => e = .returned (.string nm) ∧ Below w5.heap.size w5 w' by
          have hr := Kd.R_reads' (show Kd.R (Kd.int .i64) 2 w5 w.heap.size (fun _ => True) (.slice Aa ya.length qa) ya by rw [← HNA.out]; exact HM5.out.ra)
          have h_ := spec_madeNumbers.calls 400 Aa qa ya ⟨#[59]⟩ nm w5 hr.2.2 hr.2.1 HNF.out
          rw [← HNA.out] at h_
          exact h_).mono ?_
        rintro e w6 ⟨rfl, hb6⟩
        have HM6 := Aside0.mk (HM5.out.on hb6)
        clear hb6
        go_wp2
        go_ret
        exact ⟨by rw [HT2.out]; rfl, HM6.out.b⟩
      · have t2 : (which == 2) = false := by simpa using h2
        rw [if_neg h2] at HT2
        have HW := Aside0.mk (show 0 ≤ which ∧ which ≤ 1 by have := HW2.out; omega)
        clear h2
        have hk0 := HM.out.k0
        have hk1 := HM.out.k1
        have hu50 := Tryd.underlying50
        go_wp2_with fail
        have HM0 := HM
        clear HM hk0 hk1
        go_loopw [10, 50] (fun v10 v50 wr2 => ∃ (J2 : Int) (out : ByteArray), v50 = .int .i64 J2 ∧ v10 = .string out ∧ Aside0 ((J2 = 0 ∧ out = ⟨#[]⟩) ∨ (J2 = 1 ∧ out = part ⟨#[]⟩ false which y0) ∨ (J2 = 2 ∧ out = T)) ∧ Aside0 (MS w.heap.size w wr2 g v0 v1 v0 v1 va y0 y1 ya)) (fun _ v50 _ => 2 - (intOf v50).toNat)
        case atStart => exact ⟨0, _, rfl, rfl, ⟨Or.inl ⟨rfl, rfl⟩⟩, HM0⟩
        case round =>
          clear HM0
          obtain ⟨J2, out, rfl, rfl, HC, HM⟩ := hrel
          rcases HC.out with ⟨rfl, hout⟩ | ⟨rfl, hout⟩ | ⟨rfl, hout⟩
          · clear HC
            have so : out.size ≤ 2300 := by
              rw [hout]
              decide
            obtain ⟨A0_, q0_, ea0⟩ := Kd.R_slice HM.out.r0
            obtain ⟨A1_, q1_, ea1⟩ := Kd.R_slice HM.out.r1
            obtain ⟨nk, hnk⟩ : ∃ n, n = y0.length := ⟨_, rfl⟩
            obtain ⟨Ak, ck, ek⟩ : ∃ A c, v0 = .slice A nk c := ⟨_, _, by rw [hnk]; exact ea0⟩
            obtain ⟨mk, hmk⟩ : ∃ m, m = mkT false := ⟨_, rfl⟩
            obtain ⟨nm, hnm⟩ : ∃ m, m = numT y0 := ⟨_, rfl⟩
            obtain ⟨hl, hhl⟩ : ∃ m, m = cmdT (decide (which = 1)) := ⟨_, rfl⟩
            have HPART := Aside0.mk (show (part ⟨#[]⟩ false which y0) = if 0 < nk then out ++ ((((⟨#[27, 91]⟩ : ByteArray) ++ mk) ++ nm) ++ hl) else out by rw [← hout]; show (if 0 < y0.length then out ++ ((((⟨#[27, 91]⟩ : ByteArray) ++ mkT false) ++ numT y0) ++ cmdT (decide (which = 1))) else out) = _; rw [← hnk, ← hmk, ← hnm, ← hhl])
            have smk : mk.size ≤ 1 := by rw [hmk]; exact mk_size _
            have snm : nm.size ≤ 2200 := by rw [hnm]; exact num_size _ HYL.out.1 HYI.out.1
            have shl : hl.size = 1 := by rw [hhl]; unfold cmdT; split <;> rfl
            have HMK := Aside0.mk (show spec_Mode_mark.f false 0 = some mk by rw [hmk]; exact mk_f _ _)
            have HHL := Aside0.mk (show rdOf ByteArray.empty [⟨#[104]⟩, ⟨#[108]⟩] which = hl by rw [hhl]; rcases (show which = 0 ∨ which = 1 by have := HW.out; omega) with rfl | rfl <;> rfl)
            have HNF := Aside0.mk (show spec_madeNumbers.f 400 y0 ⟨#[59]⟩ = some nm by rw [hnm]; exact numbers _ _ HYL.out.1 HYI.out.1 rfl 400 (by omega))
            have HNM := Aside0.mk (show ∀ W, MS w.heap.size w W g v0 v1 v0 v1 va y0 y1 ya → Calls Tryd.prog 16 #[.slice Ak nk ck, .string ⟨#[59]⟩] W fun e w' => e = .returned (.string nm) ∧ Below W.heap.size W w' from fun W hM => by
              have hr := Kd.R_reads' (show Kd.R (Kd.int .i64) 2 W w.heap.size (fun _ => True) (.slice Ak y0.length ck) y0 by rw [← hnk, ← ek]; exact hM.r0)
              have h_ := spec_madeNumbers.calls 400 Ak ck y0 ⟨#[59]⟩ nm W hr.2.2 hr.2.1 HNF.out
              rw [← hnk] at h_
              exact h_)
            have qs1 : (9223372036854775807 < 2 + mk.size) = False := eq_false (by omega)
            have qs2 : (9223372036854775807 < 2 + mk.size + nm.size) = False := eq_false (by omega)
            have qs3 : (9223372036854775807 < 2 + mk.size + nm.size + hl.size) = False := eq_false (by omega)
            have qs4 : (9223372036854775807 < out.size + (2 + mk.size + nm.size + hl.size)) = False := eq_false (by omega)
            clear smk snm shl so
            have z0 : 0 ≤ which := HW.out.1
            have z1 : which < 2 := by have := HW.out; omega
            clear hnk hmk hnm hhl hout
            have HEK := Aside0.mk ek
            clear ek ea0 ea1
            have hix := ix0
            by_cases hp : 0 < nk
            · have tp : decide ((0 : Int) < (nk : Int)) = true := decide_eq_true (by omega)
              rw [if_pos hp] at HPART
              have hek := HEK.out
              go_upto_region 18 with (fail)
              refine start_ (n := 16) (S := (fun _ => True)) (ds := []) #[false, false, false, false, false, false, false, false, false, false, false, false, false, false, false, false] (by kernel_rfl) rfl rfl trivial (fun hHeld => ?_)
              refine with_tabW m18_tab m18_bits (fun HT_ HW_ => ?_)
              have M0 := Aside0.mk (HM.out.on (below_drew (Below.refl _ _)))
              clear HM
              generalize wr.drew = wy at M0 hHeld ⊢
              refine pure_ (i := 0) (N := some 57) (v := ?_) (a' := ?_) #[true, false, false, false, false, false, false, false, false, false, false, false, false, false, false, false] rfl rfl (any_of HT_.out (by kernel_rfl)) (fun _ _ _ h => h) (Or.inl ⟨by rfl, ?_⟩) ?_ ?_
              rotate_left
              · intro w'
                go_simp
                with_reducible rfl
              rotate_left
              · simp only [Act.put, List.setIfInBounds_toArray, List.set_cons_zero, List.set_cons_succ, i64_w, i32_w]
                rfl
              refine pure_ (i := 1) (N := some 58) (v := ?_) (a' := ?_) #[true, true, false, false, false, false, false, false, false, false, false, false, false, false, false, false] rfl rfl (any_of HT_.out (by kernel_rfl)) (fun _ _ _ h => h) (Or.inl ⟨by rfl, ?_⟩) ?_ ?_
              rotate_left
              · intro w'
                go_simp
                with_reducible rfl
              rotate_left
              · simp only [Act.put, List.setIfInBounds_toArray, List.set_cons_zero, List.set_cons_succ, i64_w, i32_w]
                rfl
              refine pure_ (i := 2) (N := some 59) (v := ?_) (a' := ?_) #[true, true, true, false, false, false, false, false, false, false, false, false, false, false, false, false] rfl rfl (any_of HT_.out (by kernel_rfl)) (fun _ _ _ h => h) (Or.inl ⟨by rfl, ?_⟩) ?_ ?_
              rotate_left
              · intro w'
                go_simp
                with_reducible rfl
              rotate_left
              · simp only [Act.put, List.setIfInBounds_toArray, List.set_cons_zero, List.set_cons_succ, i64_w, i32_w]
                rfl
              refine pure_ (i := 3) (N := some 60) (v := ?_) (a' := ?_) #[true, true, true, true, false, false, false, false, false, false, false, false, false, false, false, false] rfl rfl (any_of HT_.out (by kernel_rfl)) (fun _ _ _ h => h) (Or.inl ⟨by rfl, ?_⟩) ?_ ?_
              rotate_left
              · intro w'
                go_simp
                with_reducible rfl
              rotate_left
              · simp only [Act.put, List.setIfInBounds_toArray, List.set_cons_zero, List.set_cons_succ, i64_w, i32_w]
                rfl
              refine pure_ (i := 6) (N := some 63) (v := ?_) (a' := ?_) #[true, true, true, true, false, false, true, false, false, false, false, false, false, false, false, false] rfl rfl (any_of HT_.out (by kernel_rfl)) (fun _ _ _ h => h) (Or.inl ⟨by rfl, ?_⟩) ?_ ?_
              rotate_left
              · intro w'
                go_simp
                with_reducible rfl
              rotate_left
              · simp only [Act.put, List.setIfInBounds_toArray, List.set_cons_zero, List.set_cons_succ, i64_w, i32_w]
                rfl
              refine pure_ (i := 10) (N := some 67) (v := ?_) (a' := ?_) #[true, true, true, true, false, false, true, false, false, false, true, false, false, false, false, false] rfl rfl (any_of HT_.out (by kernel_rfl)) (fun _ _ _ h => h) (Or.inl ⟨by rfl, ?_⟩) ?_ ?_
              rotate_left
              · intro w'
                go_simp
                with_reducible rfl
              rotate_left
              · simp only [Act.put, List.setIfInBounds_toArray, List.set_cons_zero, List.set_cons_succ, i64_w, i32_w]
                rfl
              refine join_ (σ := Value × Value) 0 #[true, true, true, true, true, true, true, true, true, true, true, true, true, true, true, true] (fun s => [(61, .string mk), (62, .string ((⟨#[27, 91]⟩ : ByteArray) ++ mk)), (64, .string nm), (65, .string (((⟨#[27, 91]⟩ : ByteArray) ++ mk) ++ nm)), (66, s.1), (68, s.2), (69, .string hl), (70, .string ((((⟨#[27, 91]⟩ : ByteArray) ++ mk) ++ nm) ++ hl)), (71, .string (out ++ ((((⟨#[27, 91]⟩ : ByteArray) ++ mk) ++ nm) ++ hl))), (10, .string (out ++ ((((⟨#[27, 91]⟩ : ByteArray) ++ mk) ++ nm) ++ hl)))]) (fun s w' => MS w.heap.size w w' g v0 v1 v0 v1 va y0 y1 ya) ?_ ?_
              rotate_left
              · intro hCont
                refine two_ (i := 4) (j := 9) (Ni := some 61) (Nj := some 66) #[true, true, true, true, true, false, true, false, false, false, true, false, false, false, false, false] #[true, true, true, true, false, false, true, false, false, true, true, false, false, false, false, false] rfl rfl rfl rfl (two_of HT_.out (by kernel_rfl)) (by decide) (by decide) (fun K hK => ?_) (fun K hK => ?_)
                · skip
                  refine goes_ Tryd.func15 (by kernel_rfl) rfl #[.agg #[.bool false, .int .i64 0]] (by rfl) rfl rfl (by (try simp only [List.map_toArray, List.map_cons, List.map_nil]); first | done | rfl | (simp [Act.eval, *]; done)) ?_
                  refine (spec_Mode_mark.calls false 0 mk _ HMK.out).mono ?_
                  rintro e wp1 ⟨rfl, hb⟩
                  refine ⟨_, rfl, ?_⟩
                  have Mwp1 := Aside0.mk (M0.out.on hb)
                  clear hb
                  refine hK.out _ _ trivial (fun hHeld => ?_)
                  clear hK K
                  refine norm_ (a' := ?_) ?_ ?_
                  rotate_left
                  · show Act.put _ (some 61) _ = _
                    simp only [Act.put, List.setIfInBounds_toArray, List.set_cons_zero, List.set_cons_succ, i64_w, i32_w]
                    rfl
                  refine pure_ (i := 5) (N := some 62) (v := ?_) (a' := ?_) #[true, true, true, true, true, true, true, false, false, false, true, false, false, false, false, false] rfl rfl (any_of HT_.out (by kernel_rfl)) (fun _ _ _ h => h) (Or.inl ⟨by rfl, ?_⟩) ?_ ?_
                  rotate_left
                  · intro w'
                    go_simp
                    with_reducible rfl
                  rotate_left
                  · simp only [Act.put, List.setIfInBounds_toArray, List.set_cons_zero, List.set_cons_succ, i64_w, i32_w]
                    rfl
                  refine two_ (i := 7) (j := 9) (Ni := some 64) (Nj := some 66) #[true, true, true, true, true, true, true, true, false, false, true, false, false, false, false, false] #[true, true, true, true, true, true, true, false, false, true, true, false, false, false, false, false] rfl rfl rfl rfl (two_of HT_.out (by kernel_rfl)) (by decide) (by decide) (fun K hK => ?_) (fun K hK => ?_)
                  · skip
                    refine goes_ Tryd.func16 (by kernel_rfl) rfl #[.slice Ak nk ck, .string ⟨#[59]⟩] (by rfl) rfl rfl (by (try simp only [List.map_toArray, List.map_cons, List.map_nil]); first | done | rfl | (simp [Act.eval, *]; done)) ?_
                    refine (HNM.out _ Mwp1.out).mono ?_
                    rintro e wp2 ⟨rfl, hb⟩
                    refine ⟨_, rfl, ?_⟩
                    have Mwp2 := Aside0.mk (Mwp1.out.on hb)
                    clear hb
                    refine hK.out _ _ trivial (fun hHeld => ?_)
                    clear hK K
                    refine norm_ (a' := ?_) ?_ ?_
                    rotate_left
                    · show Act.put _ (some 64) _ = _
                      simp only [Act.put, List.setIfInBounds_toArray, List.set_cons_zero, List.set_cons_succ, i64_w, i32_w]
                      rfl
                    refine pure_ (i := 8) (N := some 65) (v := ?_) (a' := ?_) #[true, true, true, true, true, true, true, true, true, false, true, false, false, false, false, false] rfl rfl (any_of HT_.out (by kernel_rfl)) (fun _ _ _ h => h) (Or.inl ⟨by rfl, ?_⟩) ?_ ?_
                    rotate_left
                    · intro w'
                      go_simp
                      with_reducible rfl
                    rotate_left
                    · simp only [Act.put, List.setIfInBounds_toArray, List.set_cons_zero, List.set_cons_succ, i64_w, i32_w]
                      rfl
                    refine one_ (i := 9) (N := some 66) #[true, true, true, true, true, true, true, true, true, true, true, false, false, false, false, false] rfl rfl (one_of HT_.out (by kernel_rfl)) (by decide) (fun K hK => ?_)
                    refine Kd.R_lit_step Kd.string _ 9 ?hg (N := 66) ?hd (xs := ([⟨#[104]⟩, ⟨#[108]⟩] : List ByteArray)) (inner := [.string ⟨#[104]⟩, .string ⟨#[108]⟩]) (ok := fun _ => True) (okp := fun _ => True) ?hr ?hp (fun _ hk => hk) trivial (Below.refl _ _) (Nat.le_refl _) (by simp) ?_; (case hd => rfl); (case hg => rfl); (case hr => first | (go_simp; done) | (go_simp; rfl)); (case hp => exact Kd.reps_scalar (enc := Value.string) [⟨#[104]⟩, ⟨#[108]⟩])
                    intro Xwp3 wp3 ho hb hg_ hnew_
                    clear hg_ hnew_
                    have Mwp3 := Aside0.mk (Mwp2.out.on hb)
                    have Hwp3 := Aside0.mk ho
                    obtain ⟨gxwp3, cxwp3, exwp3, _, _⟩ := Kd.R_form ho (by decide)
                    replace exwp3 : Xwp3 = .slice (some ⟨gxwp3, 0, none⟩) 2 cxwp3 := exwp3
                    subst exwp3
                    clear ho hb
                    refine hK.out _ _ trivial (fun hHeld => ?_)
                    clear hK K
                    refine norm_ (a' := ?_) ?_ ?_
                    rotate_left
                    · show Act.put _ (some 66) _ = _
                      simp only [Act.put, List.setIfInBounds_toArray, List.set_cons_zero, List.set_cons_succ, i64_w, i32_w]
                      rfl
                    refine pure_ (i := 11) (N := some 68) (v := ?_) (a' := ?_) #[true, true, true, true, true, true, true, true, true, true, true, true, false, false, false, false] rfl rfl (any_of HT_.out (by kernel_rfl)) (fun _ _ _ h => h) (Or.inl ⟨by rfl, ?_⟩) ?_ ?_
                    rotate_left
                    · intro w'
                      go_simp
                      with_reducible rfl
                    rotate_left
                    · simp only [Act.put, List.setIfInBounds_toArray, List.set_cons_zero, List.set_cons_succ, i64_w, i32_w]
                      rfl
                    refine one_ (i := 12) (N := some 69) #[true, true, true, true, true, true, true, true, true, true, true, true, true, false, false, false] rfl rfl (one_of HT_.out (by kernel_rfl)) (by decide) (fun K hK => ?_)
                    obtain ⟨ad_, ea_, hx_⟩ := Kd.at_string (Kd.R_reads' Hwp3.out).2.2 which z0 z1
                    rw [HHL.out] at hx_
                    cases ea_
                    rw [add_plain] at hx_
                    (try simp only [Nat.zero_add] at hx_)
                    refine value_ (w1 := ?_) (v := ?_) (by rfl) rfl ?_ ?_
                    rotate_left 2
                    · go_simp
                      constructor
                      · rfl
                      · rfl
                    clear hx_
                    refine hK.out _ _ trivial (fun hHeld => ?_)
                    clear hK K
                    refine norm_ (a' := ?_) ?_ ?_
                    rotate_left
                    · show Act.put _ (some 69) _ = _
                      simp only [Act.put, List.setIfInBounds_toArray, List.set_cons_zero, List.set_cons_succ, i64_w, i32_w]
                      rfl
                    refine pure_ (i := 13) (N := some 70) (v := ?_) (a' := ?_) #[true, true, true, true, true, true, true, true, true, true, true, true, true, true, false, false] rfl rfl (any_of HT_.out (by kernel_rfl)) (fun _ _ _ h => h) (Or.inl ⟨by rfl, ?_⟩) ?_ ?_
                    rotate_left
                    · intro w'
                      go_simp
                      with_reducible rfl
                    rotate_left
                    · simp only [Act.put, List.setIfInBounds_toArray, List.set_cons_zero, List.set_cons_succ, i64_w, i32_w]
                      rfl
                    refine pure_ (i := 14) (N := some 71) (v := ?_) (a' := ?_) #[true, true, true, true, true, true, true, true, true, true, true, true, true, true, true, false] rfl rfl (any_of HT_.out (by kernel_rfl)) (fun _ _ _ h => h) (Or.inl ⟨by rfl, ?_⟩) ?_ ?_
                    rotate_left
                    · intro w'
                      go_simp
                      with_reducible rfl
                    rotate_left
                    · simp only [Act.put, List.setIfInBounds_toArray, List.set_cons_zero, List.set_cons_succ, i64_w, i32_w]
                      rfl
                    refine pure_ (i := 15) (N := some 10) (v := ?_) (a' := ?_) #[true, true, true, true, true, true, true, true, true, true, true, true, true, true, true, true] rfl rfl (any_of HT_.out (by kernel_rfl)) (fun _ _ _ h => h) (Or.inl ⟨by rfl, ?_⟩) ?_ ?_
                    rotate_left
                    · intro w'
                      go_simp
                      with_reducible rfl
                    rotate_left
                    · simp only [Act.put, List.setIfInBounds_toArray, List.set_cons_zero, List.set_cons_succ, i64_w, i32_w]
                      rfl
                    exact norm_ (by simp only [putAll, Act.put, List.setIfInBounds_toArray, List.set_cons_zero, List.set_cons_succ]) (hCont (.slice (some ⟨gxwp3, 0, none⟩) 2 cxwp3, .pointer (some ⟨gxwp3, which.toNat, none⟩)) _ Mwp3.out)
                  · skip
                    refine Kd.R_lit_step Kd.string _ 9 ?hg (N := 66) ?hd (xs := ([⟨#[104]⟩, ⟨#[108]⟩] : List ByteArray)) (inner := [.string ⟨#[104]⟩, .string ⟨#[108]⟩]) (ok := fun _ => True) (okp := fun _ => True) ?hr ?hp (fun _ hk => hk) trivial (Below.refl _ _) (Nat.le_refl _) (by simp) ?_; (case hd => rfl); (case hg => rfl); (case hr => first | (go_simp; done) | (go_simp; rfl)); (case hp => exact Kd.reps_scalar (enc := Value.string) [⟨#[104]⟩, ⟨#[108]⟩])
                    intro Xwp4 wp4 ho hb hg_ hnew_
                    clear hg_ hnew_
                    have Mwp4 := Aside0.mk (Mwp1.out.on hb)
                    have Hwp4 := Aside0.mk ho
                    obtain ⟨gxwp4, cxwp4, exwp4, _, _⟩ := Kd.R_form ho (by decide)
                    replace exwp4 : Xwp4 = .slice (some ⟨gxwp4, 0, none⟩) 2 cxwp4 := exwp4
                    subst exwp4
                    clear ho hb
                    refine hK.out _ _ trivial (fun hHeld => ?_)
                    clear hK K
                    refine norm_ (a' := ?_) ?_ ?_
                    rotate_left
                    · show Act.put _ (some 66) _ = _
                      simp only [Act.put, List.setIfInBounds_toArray, List.set_cons_zero, List.set_cons_succ, i64_w, i32_w]
                      rfl
                    refine pure_ (i := 11) (N := some 68) (v := ?_) (a' := ?_) #[true, true, true, true, true, true, true, false, false, true, true, true, false, false, false, false] rfl rfl (any_of HT_.out (by kernel_rfl)) (fun _ _ _ h => h) (Or.inl ⟨by rfl, ?_⟩) ?_ ?_
                    rotate_left
                    · intro w'
                      go_simp
                      with_reducible rfl
                    rotate_left
                    · simp only [Act.put, List.setIfInBounds_toArray, List.set_cons_zero, List.set_cons_succ, i64_w, i32_w]
                      rfl
                    refine two_ (i := 7) (j := 12) (Ni := some 64) (Nj := some 69) #[true, true, true, true, true, true, true, true, false, true, true, true, false, false, false, false] #[true, true, true, true, true, true, true, false, false, true, true, true, true, false, false, false] rfl rfl rfl rfl (two_of HT_.out (by kernel_rfl)) (by decide) (by decide) (fun K hK => ?_) (fun K hK => ?_)
                    · skip
                      refine goes_ Tryd.func16 (by kernel_rfl) rfl #[.slice Ak nk ck, .string ⟨#[59]⟩] (by rfl) rfl rfl (by (try simp only [List.map_toArray, List.map_cons, List.map_nil]); first | done | rfl | (simp [Act.eval, *]; done)) ?_
                      refine (HNM.out _ Mwp4.out).mono ?_
                      rintro e wp5 ⟨rfl, hb⟩
                      refine ⟨_, rfl, ?_⟩
                      have Mwp5 := Aside0.mk (Mwp4.out.on hb)
                      have HYwp5 := Aside0.mk (Kd.R_below Hwp4.out hb)
                      clear hb
                      refine hK.out _ _ trivial (fun hHeld => ?_)
                      clear hK K
                      refine norm_ (a' := ?_) ?_ ?_
                      rotate_left
                      · show Act.put _ (some 64) _ = _
                        simp only [Act.put, List.setIfInBounds_toArray, List.set_cons_zero, List.set_cons_succ, i64_w, i32_w]
                        rfl
                      refine pure_ (i := 8) (N := some 65) (v := ?_) (a' := ?_) #[true, true, true, true, true, true, true, true, true, true, true, true, false, false, false, false] rfl rfl (any_of HT_.out (by kernel_rfl)) (fun _ _ _ h => h) (Or.inl ⟨by rfl, ?_⟩) ?_ ?_
                      rotate_left
                      · intro w'
                        go_simp
                        with_reducible rfl
                      rotate_left
                      · simp only [Act.put, List.setIfInBounds_toArray, List.set_cons_zero, List.set_cons_succ, i64_w, i32_w]
                        rfl
                      refine one_ (i := 12) (N := some 69) #[true, true, true, true, true, true, true, true, true, true, true, true, true, false, false, false] rfl rfl (one_of HT_.out (by kernel_rfl)) (by decide) (fun K hK => ?_)
                      obtain ⟨ad_, ea_, hx_⟩ := Kd.at_string (Kd.R_reads' HYwp5.out).2.2 which z0 z1
                      rw [HHL.out] at hx_
                      cases ea_
                      rw [add_plain] at hx_
                      (try simp only [Nat.zero_add] at hx_)
                      refine value_ (w1 := ?_) (v := ?_) (by rfl) rfl ?_ ?_
                      rotate_left 2
                      · go_simp
                        constructor
                        · rfl
                        · rfl
                      clear hx_
                      refine hK.out _ _ trivial (fun hHeld => ?_)
                      clear hK K
                      refine norm_ (a' := ?_) ?_ ?_
                      rotate_left
                      · show Act.put _ (some 69) _ = _
                        simp only [Act.put, List.setIfInBounds_toArray, List.set_cons_zero, List.set_cons_succ, i64_w, i32_w]
                        rfl
                      refine pure_ (i := 13) (N := some 70) (v := ?_) (a' := ?_) #[true, true, true, true, true, true, true, true, true, true, true, true, true, true, false, false] rfl rfl (any_of HT_.out (by kernel_rfl)) (fun _ _ _ h => h) (Or.inl ⟨by rfl, ?_⟩) ?_ ?_
                      rotate_left
                      · intro w'
                        go_simp
                        with_reducible rfl
                      rotate_left
                      · simp only [Act.put, List.setIfInBounds_toArray, List.set_cons_zero, List.set_cons_succ, i64_w, i32_w]
                        rfl
                      refine pure_ (i := 14) (N := some 71) (v := ?_) (a' := ?_) #[true, true, true, true, true, true, true, true, true, true, true, true, true, true, true, false] rfl rfl (any_of HT_.out (by kernel_rfl)) (fun _ _ _ h => h) (Or.inl ⟨by rfl, ?_⟩) ?_ ?_
                      rotate_left
                      · intro w'
                        go_simp
                        with_reducible rfl
                      rotate_left
                      · simp only [Act.put, List.setIfInBounds_toArray, List.set_cons_zero, List.set_cons_succ, i64_w, i32_w]
                        rfl
                      refine pure_ (i := 15) (N := some 10) (v := ?_) (a' := ?_) #[true, true, true, true, true, true, true, true, true, true, true, true, true, true, true, true] rfl rfl (any_of HT_.out (by kernel_rfl)) (fun _ _ _ h => h) (Or.inl ⟨by rfl, ?_⟩) ?_ ?_
                      rotate_left
                      · intro w'
                        go_simp
                        with_reducible rfl
                      rotate_left
                      · simp only [Act.put, List.setIfInBounds_toArray, List.set_cons_zero, List.set_cons_succ, i64_w, i32_w]
                        rfl
                      exact norm_ (by simp only [putAll, Act.put, List.setIfInBounds_toArray, List.set_cons_zero, List.set_cons_succ]) (hCont (.slice (some ⟨gxwp4, 0, none⟩) 2 cxwp4, .pointer (some ⟨gxwp4, which.toNat, none⟩)) _ Mwp5.out)
                    · skip
                      obtain ⟨ad_, ea_, hx_⟩ := Kd.at_string (Kd.R_reads' Hwp4.out).2.2 which z0 z1
                      rw [HHL.out] at hx_
                      cases ea_
                      rw [add_plain] at hx_
                      (try simp only [Nat.zero_add] at hx_)
                      refine value_ (w1 := ?_) (v := ?_) (by rfl) rfl ?_ ?_
                      rotate_left 2
                      · go_simp
                        constructor
                        · rfl
                        · rfl
                      clear hx_
                      refine hK.out _ _ trivial (fun hHeld => ?_)
                      clear hK K
                      refine norm_ (a' := ?_) ?_ ?_
                      rotate_left
                      · show Act.put _ (some 69) _ = _
                        simp only [Act.put, List.setIfInBounds_toArray, List.set_cons_zero, List.set_cons_succ, i64_w, i32_w]
                        rfl
                      refine one_ (i := 7) (N := some 64) #[true, true, true, true, true, true, true, true, false, true, true, true, true, false, false, false] rfl rfl (one_of HT_.out (by kernel_rfl)) (by decide) (fun K hK => ?_)
                      refine goes_ Tryd.func16 (by kernel_rfl) rfl #[.slice Ak nk ck, .string ⟨#[59]⟩] (by rfl) rfl rfl (by (try simp only [List.map_toArray, List.map_cons, List.map_nil]); first | done | rfl | (simp [Act.eval, *]; done)) ?_
                      refine (HNM.out _ Mwp4.out).mono ?_
                      rintro e wp6 ⟨rfl, hb⟩
                      refine ⟨_, rfl, ?_⟩
                      have Mwp6 := Aside0.mk (Mwp4.out.on hb)
                      have HYwp6 := Aside0.mk (Kd.R_below Hwp4.out hb)
                      clear hb
                      refine hK.out _ _ trivial (fun hHeld => ?_)
                      clear hK K
                      refine norm_ (a' := ?_) ?_ ?_
                      rotate_left
                      · show Act.put _ (some 64) _ = _
                        simp only [Act.put, List.setIfInBounds_toArray, List.set_cons_zero, List.set_cons_succ, i64_w, i32_w]
                        rfl
                      refine pure_ (i := 8) (N := some 65) (v := ?_) (a' := ?_) #[true, true, true, true, true, true, true, true, true, true, true, true, true, false, false, false] rfl rfl (any_of HT_.out (by kernel_rfl)) (fun _ _ _ h => h) (Or.inl ⟨by rfl, ?_⟩) ?_ ?_
                      rotate_left
                      · intro w'
                        go_simp
                        with_reducible rfl
                      rotate_left
                      · simp only [Act.put, List.setIfInBounds_toArray, List.set_cons_zero, List.set_cons_succ, i64_w, i32_w]
                        rfl
                      refine pure_ (i := 13) (N := some 70) (v := ?_) (a' := ?_) #[true, true, true, true, true, true, true, true, true, true, true, true, true, true, false, false] rfl rfl (any_of HT_.out (by kernel_rfl)) (fun _ _ _ h => h) (Or.inl ⟨by rfl, ?_⟩) ?_ ?_
                      rotate_left
                      · intro w'
                        go_simp
                        with_reducible rfl
                      rotate_left
                      · simp only [Act.put, List.setIfInBounds_toArray, List.set_cons_zero, List.set_cons_succ, i64_w, i32_w]
                        rfl
                      refine pure_ (i := 14) (N := some 71) (v := ?_) (a' := ?_) #[true, true, true, true, true, true, true, true, true, true, true, true, true, true, true, false] rfl rfl (any_of HT_.out (by kernel_rfl)) (fun _ _ _ h => h) (Or.inl ⟨by rfl, ?_⟩) ?_ ?_
                      rotate_left
                      · intro w'
                        go_simp
                        with_reducible rfl
                      rotate_left
                      · simp only [Act.put, List.setIfInBounds_toArray, List.set_cons_zero, List.set_cons_succ, i64_w, i32_w]
                        rfl
                      refine pure_ (i := 15) (N := some 10) (v := ?_) (a' := ?_) #[true, true, true, true, true, true, true, true, true, true, true, true, true, true, true, true] rfl rfl (any_of HT_.out (by kernel_rfl)) (fun _ _ _ h => h) (Or.inl ⟨by rfl, ?_⟩) ?_ ?_
                      rotate_left
                      · intro w'
                        go_simp
                        with_reducible rfl
                      rotate_left
                      · simp only [Act.put, List.setIfInBounds_toArray, List.set_cons_zero, List.set_cons_succ, i64_w, i32_w]
                        rfl
                      exact norm_ (by simp only [putAll, Act.put, List.setIfInBounds_toArray, List.set_cons_zero, List.set_cons_succ]) (hCont (.slice (some ⟨gxwp4, 0, none⟩) 2 cxwp4, .pointer (some ⟨gxwp4, which.toNat, none⟩)) _ Mwp6.out)
                · skip
                  refine Kd.R_lit_step Kd.string _ 9 ?hg (N := 66) ?hd (xs := ([⟨#[104]⟩, ⟨#[108]⟩] : List ByteArray)) (inner := [.string ⟨#[104]⟩, .string ⟨#[108]⟩]) (ok := fun _ => True) (okp := fun _ => True) ?hr ?hp (fun _ hk => hk) trivial (Below.refl _ _) (Nat.le_refl _) (by simp) ?_; (case hd => rfl); (case hg => rfl); (case hr => first | (go_simp; done) | (go_simp; rfl)); (case hp => exact Kd.reps_scalar (enc := Value.string) [⟨#[104]⟩, ⟨#[108]⟩])
                  intro Xwp7 wp7 ho hb hg_ hnew_
                  clear hg_ hnew_
                  have Mwp7 := Aside0.mk (M0.out.on hb)
                  have Hwp7 := Aside0.mk ho
                  obtain ⟨gxwp7, cxwp7, exwp7, _, _⟩ := Kd.R_form ho (by decide)
                  replace exwp7 : Xwp7 = .slice (some ⟨gxwp7, 0, none⟩) 2 cxwp7 := exwp7
                  subst exwp7
                  clear ho hb
                  refine hK.out _ _ trivial (fun hHeld => ?_)
                  clear hK K
                  refine norm_ (a' := ?_) ?_ ?_
                  rotate_left
                  · show Act.put _ (some 66) _ = _
                    simp only [Act.put, List.setIfInBounds_toArray, List.set_cons_zero, List.set_cons_succ, i64_w, i32_w]
                    rfl
                  refine pure_ (i := 11) (N := some 68) (v := ?_) (a' := ?_) #[true, true, true, true, false, false, true, false, false, true, true, true, false, false, false, false] rfl rfl (any_of HT_.out (by kernel_rfl)) (fun _ _ _ h => h) (Or.inl ⟨by rfl, ?_⟩) ?_ ?_
                  rotate_left
                  · intro w'
                    go_simp
                    with_reducible rfl
                  rotate_left
                  · simp only [Act.put, List.setIfInBounds_toArray, List.set_cons_zero, List.set_cons_succ, i64_w, i32_w]
                    rfl
                  refine two_ (i := 4) (j := 12) (Ni := some 61) (Nj := some 69) #[true, true, true, true, true, false, true, false, false, true, true, true, false, false, false, false] #[true, true, true, true, false, false, true, false, false, true, true, true, true, false, false, false] rfl rfl rfl rfl (two_of HT_.out (by kernel_rfl)) (by decide) (by decide) (fun K hK => ?_) (fun K hK => ?_)
                  · skip
                    refine goes_ Tryd.func15 (by kernel_rfl) rfl #[.agg #[.bool false, .int .i64 0]] (by rfl) rfl rfl (by (try simp only [List.map_toArray, List.map_cons, List.map_nil]); first | done | rfl | (simp [Act.eval, *]; done)) ?_
                    refine (spec_Mode_mark.calls false 0 mk _ HMK.out).mono ?_
                    rintro e wp8 ⟨rfl, hb⟩
                    refine ⟨_, rfl, ?_⟩
                    have Mwp8 := Aside0.mk (Mwp7.out.on hb)
                    have HYwp8 := Aside0.mk (Kd.R_below Hwp7.out hb)
                    clear hb
                    refine hK.out _ _ trivial (fun hHeld => ?_)
                    clear hK K
                    refine norm_ (a' := ?_) ?_ ?_
                    rotate_left
                    · show Act.put _ (some 61) _ = _
                      simp only [Act.put, List.setIfInBounds_toArray, List.set_cons_zero, List.set_cons_succ, i64_w, i32_w]
                      rfl
                    refine pure_ (i := 5) (N := some 62) (v := ?_) (a' := ?_) #[true, true, true, true, true, true, true, false, false, true, true, true, false, false, false, false] rfl rfl (any_of HT_.out (by kernel_rfl)) (fun _ _ _ h => h) (Or.inl ⟨by rfl, ?_⟩) ?_ ?_
                    rotate_left
                    · intro w'
                      go_simp
                      with_reducible rfl
                    rotate_left
                    · simp only [Act.put, List.setIfInBounds_toArray, List.set_cons_zero, List.set_cons_succ, i64_w, i32_w]
                      rfl
                    refine two_ (i := 7) (j := 12) (Ni := some 64) (Nj := some 69) #[true, true, true, true, true, true, true, true, false, true, true, true, false, false, false, false] #[true, true, true, true, true, true, true, false, false, true, true, true, true, false, false, false] rfl rfl rfl rfl (two_of HT_.out (by kernel_rfl)) (by decide) (by decide) (fun K hK => ?_) (fun K hK => ?_)
                    · skip
                      refine goes_ Tryd.func16 (by kernel_rfl) rfl #[.slice Ak nk ck, .string ⟨#[59]⟩] (by rfl) rfl rfl (by (try simp only [List.map_toArray, List.map_cons, List.map_nil]); first | done | rfl | (simp [Act.eval, *]; done)) ?_
                      refine (HNM.out _ Mwp8.out).mono ?_
                      rintro e wp9 ⟨rfl, hb⟩
                      refine ⟨_, rfl, ?_⟩
                      have Mwp9 := Aside0.mk (Mwp8.out.on hb)
                      have HYwp9 := Aside0.mk (Kd.R_below HYwp8.out hb)
                      clear hb
                      refine hK.out _ _ trivial (fun hHeld => ?_)
                      clear hK K
                      refine norm_ (a' := ?_) ?_ ?_
                      rotate_left
                      · show Act.put _ (some 64) _ = _
                        simp only [Act.put, List.setIfInBounds_toArray, List.set_cons_zero, List.set_cons_succ, i64_w, i32_w]
                        rfl
                      refine pure_ (i := 8) (N := some 65) (v := ?_) (a' := ?_) #[true, true, true, true, true, true, true, true, true, true, true, true, false, false, false, false] rfl rfl (any_of HT_.out (by kernel_rfl)) (fun _ _ _ h => h) (Or.inl ⟨by rfl, ?_⟩) ?_ ?_
                      rotate_left
                      · intro w'
                        go_simp
                        with_reducible rfl
                      rotate_left
                      · simp only [Act.put, List.setIfInBounds_toArray, List.set_cons_zero, List.set_cons_succ, i64_w, i32_w]
                        rfl
                      refine one_ (i := 12) (N := some 69) #[true, true, true, true, true, true, true, true, true, true, true, true, true, false, false, false] rfl rfl (one_of HT_.out (by kernel_rfl)) (by decide) (fun K hK => ?_)
                      obtain ⟨ad_, ea_, hx_⟩ := Kd.at_string (Kd.R_reads' HYwp9.out).2.2 which z0 z1
                      rw [HHL.out] at hx_
                      cases ea_
                      rw [add_plain] at hx_
                      (try simp only [Nat.zero_add] at hx_)
                      refine value_ (w1 := ?_) (v := ?_) (by rfl) rfl ?_ ?_
                      rotate_left 2
                      · go_simp
                        constructor
                        · rfl
                        · rfl
                      clear hx_
                      refine hK.out _ _ trivial (fun hHeld => ?_)
                      clear hK K
                      refine norm_ (a' := ?_) ?_ ?_
                      rotate_left
                      · show Act.put _ (some 69) _ = _
                        simp only [Act.put, List.setIfInBounds_toArray, List.set_cons_zero, List.set_cons_succ, i64_w, i32_w]
                        rfl
                      refine pure_ (i := 13) (N := some 70) (v := ?_) (a' := ?_) #[true, true, true, true, true, true, true, true, true, true, true, true, true, true, false, false] rfl rfl (any_of HT_.out (by kernel_rfl)) (fun _ _ _ h => h) (Or.inl ⟨by rfl, ?_⟩) ?_ ?_
                      rotate_left
                      · intro w'
                        go_simp
                        with_reducible rfl
                      rotate_left
                      · simp only [Act.put, List.setIfInBounds_toArray, List.set_cons_zero, List.set_cons_succ, i64_w, i32_w]
                        rfl
                      refine pure_ (i := 14) (N := some 71) (v := ?_) (a' := ?_) #[true, true, true, true, true, true, true, true, true, true, true, true, true, true, true, false] rfl rfl (any_of HT_.out (by kernel_rfl)) (fun _ _ _ h => h) (Or.inl ⟨by rfl, ?_⟩) ?_ ?_
                      rotate_left
                      · intro w'
                        go_simp
                        with_reducible rfl
                      rotate_left
                      · simp only [Act.put, List.setIfInBounds_toArray, List.set_cons_zero, List.set_cons_succ, i64_w, i32_w]
                        rfl
                      refine pure_ (i := 15) (N := some 10) (v := ?_) (a' := ?_) #[true, true, true, true, true, true, true, true, true, true, true, true, true, true, true, true] rfl rfl (any_of HT_.out (by kernel_rfl)) (fun _ _ _ h => h) (Or.inl ⟨by rfl, ?_⟩) ?_ ?_
                      rotate_left
                      · intro w'
                        go_simp
                        with_reducible rfl
                      rotate_left
                      · simp only [Act.put, List.setIfInBounds_toArray, List.set_cons_zero, List.set_cons_succ, i64_w, i32_w]
                        rfl
                      exact norm_ (by simp only [putAll, Act.put, List.setIfInBounds_toArray, List.set_cons_zero, List.set_cons_succ]) (hCont (.slice (some ⟨gxwp7, 0, none⟩) 2 cxwp7, .pointer (some ⟨gxwp7, which.toNat, none⟩)) _ Mwp9.out)
                    · skip
                      obtain ⟨ad_, ea_, hx_⟩ := Kd.at_string (Kd.R_reads' HYwp8.out).2.2 which z0 z1
                      rw [HHL.out] at hx_
                      cases ea_
                      rw [add_plain] at hx_
                      (try simp only [Nat.zero_add] at hx_)
                      refine value_ (w1 := ?_) (v := ?_) (by rfl) rfl ?_ ?_
                      rotate_left 2
                      · go_simp
                        constructor
                        · rfl
                        · rfl
                      clear hx_
                      refine hK.out _ _ trivial (fun hHeld => ?_)
                      clear hK K
                      refine norm_ (a' := ?_) ?_ ?_
                      rotate_left
                      · show Act.put _ (some 69) _ = _
                        simp only [Act.put, List.setIfInBounds_toArray, List.set_cons_zero, List.set_cons_succ, i64_w, i32_w]
                        rfl
                      refine one_ (i := 7) (N := some 64) #[true, true, true, true, true, true, true, true, false, true, true, true, true, false, false, false] rfl rfl (one_of HT_.out (by kernel_rfl)) (by decide) (fun K hK => ?_)
                      refine goes_ Tryd.func16 (by kernel_rfl) rfl #[.slice Ak nk ck, .string ⟨#[59]⟩] (by rfl) rfl rfl (by (try simp only [List.map_toArray, List.map_cons, List.map_nil]); first | done | rfl | (simp [Act.eval, *]; done)) ?_
                      refine (HNM.out _ Mwp8.out).mono ?_
                      rintro e wp10 ⟨rfl, hb⟩
                      refine ⟨_, rfl, ?_⟩
                      have Mwp10 := Aside0.mk (Mwp8.out.on hb)
                      have HYwp10 := Aside0.mk (Kd.R_below HYwp8.out hb)
                      clear hb
                      refine hK.out _ _ trivial (fun hHeld => ?_)
                      clear hK K
                      refine norm_ (a' := ?_) ?_ ?_
                      rotate_left
                      · show Act.put _ (some 64) _ = _
                        simp only [Act.put, List.setIfInBounds_toArray, List.set_cons_zero, List.set_cons_succ, i64_w, i32_w]
                        rfl
                      refine pure_ (i := 8) (N := some 65) (v := ?_) (a' := ?_) #[true, true, true, true, true, true, true, true, true, true, true, true, true, false, false, false] rfl rfl (any_of HT_.out (by kernel_rfl)) (fun _ _ _ h => h) (Or.inl ⟨by rfl, ?_⟩) ?_ ?_
                      rotate_left
                      · intro w'
                        go_simp
                        with_reducible rfl
                      rotate_left
                      · simp only [Act.put, List.setIfInBounds_toArray, List.set_cons_zero, List.set_cons_succ, i64_w, i32_w]
                        rfl
                      refine pure_ (i := 13) (N := some 70) (v := ?_) (a' := ?_) #[true, true, true, true, true, true, true, true, true, true, true, true, true, true, false, false] rfl rfl (any_of HT_.out (by kernel_rfl)) (fun _ _ _ h => h) (Or.inl ⟨by rfl, ?_⟩) ?_ ?_
                      rotate_left
                      · intro w'
                        go_simp
                        with_reducible rfl
                      rotate_left
                      · simp only [Act.put, List.setIfInBounds_toArray, List.set_cons_zero, List.set_cons_succ, i64_w, i32_w]
                        rfl
                      refine pure_ (i := 14) (N := some 71) (v := ?_) (a' := ?_) #[true, true, true, true, true, true, true, true, true, true, true, true, true, true, true, false] rfl rfl (any_of HT_.out (by kernel_rfl)) (fun _ _ _ h => h) (Or.inl ⟨by rfl, ?_⟩) ?_ ?_
                      rotate_left
                      · intro w'
                        go_simp
                        with_reducible rfl
                      rotate_left
                      · simp only [Act.put, List.setIfInBounds_toArray, List.set_cons_zero, List.set_cons_succ, i64_w, i32_w]
                        rfl
                      refine pure_ (i := 15) (N := some 10) (v := ?_) (a' := ?_) #[true, true, true, true, true, true, true, true, true, true, true, true, true, true, true, true] rfl rfl (any_of HT_.out (by kernel_rfl)) (fun _ _ _ h => h) (Or.inl ⟨by rfl, ?_⟩) ?_ ?_
                      rotate_left
                      · intro w'
                        go_simp
                        with_reducible rfl
                      rotate_left
                      · simp only [Act.put, List.setIfInBounds_toArray, List.set_cons_zero, List.set_cons_succ, i64_w, i32_w]
                        rfl
                      exact norm_ (by simp only [putAll, Act.put, List.setIfInBounds_toArray, List.set_cons_zero, List.set_cons_succ]) (hCont (.slice (some ⟨gxwp7, 0, none⟩) 2 cxwp7, .pointer (some ⟨gxwp7, which.toNat, none⟩)) _ Mwp10.out)
                  · skip
                    obtain ⟨ad_, ea_, hx_⟩ := Kd.at_string (Kd.R_reads' Hwp7.out).2.2 which z0 z1
                    rw [HHL.out] at hx_
                    cases ea_
                    rw [add_plain] at hx_
                    (try simp only [Nat.zero_add] at hx_)
                    refine value_ (w1 := ?_) (v := ?_) (by rfl) rfl ?_ ?_
                    rotate_left 2
                    · go_simp
                      constructor
                      · rfl
                      · rfl
                    clear hx_
                    refine hK.out _ _ trivial (fun hHeld => ?_)
                    clear hK K
                    refine norm_ (a' := ?_) ?_ ?_
                    rotate_left
                    · show Act.put _ (some 69) _ = _
                      simp only [Act.put, List.setIfInBounds_toArray, List.set_cons_zero, List.set_cons_succ, i64_w, i32_w]
                      rfl
                    refine one_ (i := 4) (N := some 61) #[true, true, true, true, true, false, true, false, false, true, true, true, true, false, false, false] rfl rfl (one_of HT_.out (by kernel_rfl)) (by decide) (fun K hK => ?_)
                    refine goes_ Tryd.func15 (by kernel_rfl) rfl #[.agg #[.bool false, .int .i64 0]] (by rfl) rfl rfl (by (try simp only [List.map_toArray, List.map_cons, List.map_nil]); first | done | rfl | (simp [Act.eval, *]; done)) ?_
                    refine (spec_Mode_mark.calls false 0 mk _ HMK.out).mono ?_
                    rintro e wp11 ⟨rfl, hb⟩
                    refine ⟨_, rfl, ?_⟩
                    have Mwp11 := Aside0.mk (Mwp7.out.on hb)
                    have HYwp11 := Aside0.mk (Kd.R_below Hwp7.out hb)
                    clear hb
                    refine hK.out _ _ trivial (fun hHeld => ?_)
                    clear hK K
                    refine norm_ (a' := ?_) ?_ ?_
                    rotate_left
                    · show Act.put _ (some 61) _ = _
                      simp only [Act.put, List.setIfInBounds_toArray, List.set_cons_zero, List.set_cons_succ, i64_w, i32_w]
                      rfl
                    refine pure_ (i := 5) (N := some 62) (v := ?_) (a' := ?_) #[true, true, true, true, true, true, true, false, false, true, true, true, true, false, false, false] rfl rfl (any_of HT_.out (by kernel_rfl)) (fun _ _ _ h => h) (Or.inl ⟨by rfl, ?_⟩) ?_ ?_
                    rotate_left
                    · intro w'
                      go_simp
                      with_reducible rfl
                    rotate_left
                    · simp only [Act.put, List.setIfInBounds_toArray, List.set_cons_zero, List.set_cons_succ, i64_w, i32_w]
                      rfl
                    refine one_ (i := 7) (N := some 64) #[true, true, true, true, true, true, true, true, false, true, true, true, true, false, false, false] rfl rfl (one_of HT_.out (by kernel_rfl)) (by decide) (fun K hK => ?_)
                    refine goes_ Tryd.func16 (by kernel_rfl) rfl #[.slice Ak nk ck, .string ⟨#[59]⟩] (by rfl) rfl rfl (by (try simp only [List.map_toArray, List.map_cons, List.map_nil]); first | done | rfl | (simp [Act.eval, *]; done)) ?_
                    refine (HNM.out _ Mwp11.out).mono ?_
                    rintro e wp12 ⟨rfl, hb⟩
                    refine ⟨_, rfl, ?_⟩
                    have Mwp12 := Aside0.mk (Mwp11.out.on hb)
                    have HYwp12 := Aside0.mk (Kd.R_below HYwp11.out hb)
                    clear hb
                    refine hK.out _ _ trivial (fun hHeld => ?_)
                    clear hK K
                    refine norm_ (a' := ?_) ?_ ?_
                    rotate_left
                    · show Act.put _ (some 64) _ = _
                      simp only [Act.put, List.setIfInBounds_toArray, List.set_cons_zero, List.set_cons_succ, i64_w, i32_w]
                      rfl
                    refine pure_ (i := 8) (N := some 65) (v := ?_) (a' := ?_) #[true, true, true, true, true, true, true, true, true, true, true, true, true, false, false, false] rfl rfl (any_of HT_.out (by kernel_rfl)) (fun _ _ _ h => h) (Or.inl ⟨by rfl, ?_⟩) ?_ ?_
                    rotate_left
                    · intro w'
                      go_simp
                      with_reducible rfl
                    rotate_left
                    · simp only [Act.put, List.setIfInBounds_toArray, List.set_cons_zero, List.set_cons_succ, i64_w, i32_w]
                      rfl
                    refine pure_ (i := 13) (N := some 70) (v := ?_) (a' := ?_) #[true, true, true, true, true, true, true, true, true, true, true, true, true, true, false, false] rfl rfl (any_of HT_.out (by kernel_rfl)) (fun _ _ _ h => h) (Or.inl ⟨by rfl, ?_⟩) ?_ ?_
                    rotate_left
                    · intro w'
                      go_simp
                      with_reducible rfl
                    rotate_left
                    · simp only [Act.put, List.setIfInBounds_toArray, List.set_cons_zero, List.set_cons_succ, i64_w, i32_w]
                      rfl
                    refine pure_ (i := 14) (N := some 71) (v := ?_) (a' := ?_) #[true, true, true, true, true, true, true, true, true, true, true, true, true, true, true, false] rfl rfl (any_of HT_.out (by kernel_rfl)) (fun _ _ _ h => h) (Or.inl ⟨by rfl, ?_⟩) ?_ ?_
                    rotate_left
                    · intro w'
                      go_simp
                      with_reducible rfl
                    rotate_left
                    · simp only [Act.put, List.setIfInBounds_toArray, List.set_cons_zero, List.set_cons_succ, i64_w, i32_w]
                      rfl
                    refine pure_ (i := 15) (N := some 10) (v := ?_) (a' := ?_) #[true, true, true, true, true, true, true, true, true, true, true, true, true, true, true, true] rfl rfl (any_of HT_.out (by kernel_rfl)) (fun _ _ _ h => h) (Or.inl ⟨by rfl, ?_⟩) ?_ ?_
                    rotate_left
                    · intro w'
                      go_simp
                      with_reducible rfl
                    rotate_left
                    · simp only [Act.put, List.setIfInBounds_toArray, List.set_cons_zero, List.set_cons_succ, i64_w, i32_w]
                      rfl
                    exact norm_ (by simp only [putAll, Act.put, List.setIfInBounds_toArray, List.set_cons_zero, List.set_cons_succ]) (hCont (.slice (some ⟨gxwp7, 0, none⟩) 2 cxwp7, .pointer (some ⟨gxwp7, which.toNat, none⟩)) _ Mwp12.out)
              rintro ⟨x66, x68⟩ wj hMS
              have MJ := Aside0.mk (show MS w.heap.size w wj g v0 v1 v0 v1 va y0 y1 ya from hMS)
              clear hMS
              simp only [putAll, Act.put, List.setIfInBounds_toArray, List.set_cons_zero, List.set_cons_succ]
              refine done_ (done_of HT_.out (by kernel_rfl)) ?_
              clear hHeld
              go_wp2_with fail
              go_roundw
              case rel => exact ⟨1, _, by first | rfl | (simp [wrap64]; done), rfl, ⟨Or.inr (Or.inl ⟨rfl, by rw [HPART.out]⟩)⟩, MJ⟩
              case measure => simp [intOf]
            · rw [if_neg hp] at HPART
              obtain rfl : nk = 0 := by omega
              have hek := HEK.out
              go_wp2_with fail
              go_roundw
              case rel => exact ⟨1, _, by first | rfl | (simp [wrap64]; done), rfl, ⟨Or.inr (Or.inl ⟨rfl, by rw [HPART.out]⟩)⟩, HM⟩
              case measure => simp [intOf]
          · clear HC
            have so : out.size ≤ 2300 := by
              rw [hout]
              have h1 := part_size ⟨#[]⟩ false which y0 HYL.out.1 HYI.out.1; have h2 : (⟨#[]⟩ : ByteArray).size = 0 := rfl; omega
            obtain ⟨A0_, q0_, ea0⟩ := Kd.R_slice HM.out.r0
            obtain ⟨A1_, q1_, ea1⟩ := Kd.R_slice HM.out.r1
            obtain ⟨nk, hnk⟩ : ∃ n, n = y1.length := ⟨_, rfl⟩
            obtain ⟨Ak, ck, ek⟩ : ∃ A c, v1 = .slice A nk c := ⟨_, _, by rw [hnk]; exact ea1⟩
            obtain ⟨mk, hmk⟩ : ∃ m, m = mkT true := ⟨_, rfl⟩
            obtain ⟨nm, hnm⟩ : ∃ m, m = numT y1 := ⟨_, rfl⟩
            obtain ⟨hl, hhl⟩ : ∃ m, m = cmdT (decide (which = 1)) := ⟨_, rfl⟩
            have HPART := Aside0.mk (show (part (part ⟨#[]⟩ false which y0) true which y1) = if 0 < nk then out ++ ((((⟨#[27, 91]⟩ : ByteArray) ++ mk) ++ nm) ++ hl) else out by rw [← hout]; show (if 0 < y1.length then out ++ ((((⟨#[27, 91]⟩ : ByteArray) ++ mkT true) ++ numT y1) ++ cmdT (decide (which = 1))) else out) = _; rw [← hnk, ← hmk, ← hnm, ← hhl])
            have smk : mk.size ≤ 1 := by rw [hmk]; exact mk_size _
            have snm : nm.size ≤ 2200 := by rw [hnm]; exact num_size _ HYL.out.2.1 HYI.out.2.1
            have shl : hl.size = 1 := by rw [hhl]; unfold cmdT; split <;> rfl
            have HMK := Aside0.mk (show spec_Mode_mark.f true 0 = some mk by rw [hmk]; exact mk_f _ _)
            have HHL := Aside0.mk (show rdOf ByteArray.empty [⟨#[104]⟩, ⟨#[108]⟩] which = hl by rw [hhl]; rcases (show which = 0 ∨ which = 1 by have := HW.out; omega) with rfl | rfl <;> rfl)
            have HNF := Aside0.mk (show spec_madeNumbers.f 400 y1 ⟨#[59]⟩ = some nm by rw [hnm]; exact numbers _ _ HYL.out.2.1 HYI.out.2.1 rfl 400 (by omega))
            have HNM := Aside0.mk (show ∀ W, MS w.heap.size w W g v0 v1 v0 v1 va y0 y1 ya → Calls Tryd.prog 16 #[.slice Ak nk ck, .string ⟨#[59]⟩] W fun e w' => e = .returned (.string nm) ∧ Below W.heap.size W w' from fun W hM => by
              have hr := Kd.R_reads' (show Kd.R (Kd.int .i64) 2 W w.heap.size (fun _ => True) (.slice Ak y1.length ck) y1 by rw [← hnk, ← ek]; exact hM.r1)
              have h_ := spec_madeNumbers.calls 400 Ak ck y1 ⟨#[59]⟩ nm W hr.2.2 hr.2.1 HNF.out
              rw [← hnk] at h_
              exact h_)
            have qs1 : (9223372036854775807 < 2 + mk.size) = False := eq_false (by omega)
            have qs2 : (9223372036854775807 < 2 + mk.size + nm.size) = False := eq_false (by omega)
            have qs3 : (9223372036854775807 < 2 + mk.size + nm.size + hl.size) = False := eq_false (by omega)
            have qs4 : (9223372036854775807 < out.size + (2 + mk.size + nm.size + hl.size)) = False := eq_false (by omega)
            clear smk snm shl so
            have z0 : 0 ≤ which := HW.out.1
            have z1 : which < 2 := by have := HW.out; omega
            clear hnk hmk hnm hhl hout
            have HEK := Aside0.mk ek
            clear ek ea0 ea1
            have hix := ix1
            by_cases hp : 0 < nk
            · have tp : decide ((0 : Int) < (nk : Int)) = true := decide_eq_true (by omega)
              rw [if_pos hp] at HPART
              have hek := HEK.out
              go_upto_region 18 with (fail)
              refine start_ (n := 16) (S := (fun _ => True)) (ds := []) #[false, false, false, false, false, false, false, false, false, false, false, false, false, false, false, false] (by kernel_rfl) rfl rfl trivial (fun hHeld => ?_)
              refine with_tabW m18_tab m18_bits (fun HT_ HW_ => ?_)
              have M0 := Aside0.mk (HM.out.on (below_drew (Below.refl _ _)))
              clear HM
              generalize wr.drew = wy at M0 hHeld ⊢
              refine pure_ (i := 0) (N := some 57) (v := ?_) (a' := ?_) #[true, false, false, false, false, false, false, false, false, false, false, false, false, false, false, false] rfl rfl (any_of HT_.out (by kernel_rfl)) (fun _ _ _ h => h) (Or.inl ⟨by rfl, ?_⟩) ?_ ?_
              rotate_left
              · intro w'
                go_simp
                with_reducible rfl
              rotate_left
              · simp only [Act.put, List.setIfInBounds_toArray, List.set_cons_zero, List.set_cons_succ, i64_w, i32_w]
                rfl
              refine pure_ (i := 1) (N := some 58) (v := ?_) (a' := ?_) #[true, true, false, false, false, false, false, false, false, false, false, false, false, false, false, false] rfl rfl (any_of HT_.out (by kernel_rfl)) (fun _ _ _ h => h) (Or.inl ⟨by rfl, ?_⟩) ?_ ?_
              rotate_left
              · intro w'
                go_simp
                with_reducible rfl
              rotate_left
              · simp only [Act.put, List.setIfInBounds_toArray, List.set_cons_zero, List.set_cons_succ, i64_w, i32_w]
                rfl
              refine pure_ (i := 2) (N := some 59) (v := ?_) (a' := ?_) #[true, true, true, false, false, false, false, false, false, false, false, false, false, false, false, false] rfl rfl (any_of HT_.out (by kernel_rfl)) (fun _ _ _ h => h) (Or.inl ⟨by rfl, ?_⟩) ?_ ?_
              rotate_left
              · intro w'
                go_simp
                with_reducible rfl
              rotate_left
              · simp only [Act.put, List.setIfInBounds_toArray, List.set_cons_zero, List.set_cons_succ, i64_w, i32_w]
                rfl
              refine pure_ (i := 3) (N := some 60) (v := ?_) (a' := ?_) #[true, true, true, true, false, false, false, false, false, false, false, false, false, false, false, false] rfl rfl (any_of HT_.out (by kernel_rfl)) (fun _ _ _ h => h) (Or.inl ⟨by rfl, ?_⟩) ?_ ?_
              rotate_left
              · intro w'
                go_simp
                with_reducible rfl
              rotate_left
              · simp only [Act.put, List.setIfInBounds_toArray, List.set_cons_zero, List.set_cons_succ, i64_w, i32_w]
                rfl
              refine pure_ (i := 6) (N := some 63) (v := ?_) (a' := ?_) #[true, true, true, true, false, false, true, false, false, false, false, false, false, false, false, false] rfl rfl (any_of HT_.out (by kernel_rfl)) (fun _ _ _ h => h) (Or.inl ⟨by rfl, ?_⟩) ?_ ?_
              rotate_left
              · intro w'
                go_simp
                with_reducible rfl
              rotate_left
              · simp only [Act.put, List.setIfInBounds_toArray, List.set_cons_zero, List.set_cons_succ, i64_w, i32_w]
                rfl
              refine pure_ (i := 10) (N := some 67) (v := ?_) (a' := ?_) #[true, true, true, true, false, false, true, false, false, false, true, false, false, false, false, false] rfl rfl (any_of HT_.out (by kernel_rfl)) (fun _ _ _ h => h) (Or.inl ⟨by rfl, ?_⟩) ?_ ?_
              rotate_left
              · intro w'
                go_simp
                with_reducible rfl
              rotate_left
              · simp only [Act.put, List.setIfInBounds_toArray, List.set_cons_zero, List.set_cons_succ, i64_w, i32_w]
                rfl
              refine join_ (σ := Value × Value) 0 #[true, true, true, true, true, true, true, true, true, true, true, true, true, true, true, true] (fun s => [(61, .string mk), (62, .string ((⟨#[27, 91]⟩ : ByteArray) ++ mk)), (64, .string nm), (65, .string (((⟨#[27, 91]⟩ : ByteArray) ++ mk) ++ nm)), (66, s.1), (68, s.2), (69, .string hl), (70, .string ((((⟨#[27, 91]⟩ : ByteArray) ++ mk) ++ nm) ++ hl)), (71, .string (out ++ ((((⟨#[27, 91]⟩ : ByteArray) ++ mk) ++ nm) ++ hl))), (10, .string (out ++ ((((⟨#[27, 91]⟩ : ByteArray) ++ mk) ++ nm) ++ hl)))]) (fun s w' => MS w.heap.size w w' g v0 v1 v0 v1 va y0 y1 ya) ?_ ?_
              rotate_left
              · intro hCont
                refine two_ (i := 4) (j := 9) (Ni := some 61) (Nj := some 66) #[true, true, true, true, true, false, true, false, false, false, true, false, false, false, false, false] #[true, true, true, true, false, false, true, false, false, true, true, false, false, false, false, false] rfl rfl rfl rfl (two_of HT_.out (by kernel_rfl)) (by decide) (by decide) (fun K hK => ?_) (fun K hK => ?_)
                · skip
                  refine goes_ Tryd.func15 (by kernel_rfl) rfl #[.agg #[.bool true, .int .i64 0]] (by rfl) rfl rfl (by (try simp only [List.map_toArray, List.map_cons, List.map_nil]); first | done | rfl | (simp [Act.eval, *]; done)) ?_
                  refine (spec_Mode_mark.calls true 0 mk _ HMK.out).mono ?_
                  rintro e wp1 ⟨rfl, hb⟩
                  refine ⟨_, rfl, ?_⟩
                  have Mwp1 := Aside0.mk (M0.out.on hb)
                  clear hb
                  refine hK.out _ _ trivial (fun hHeld => ?_)
                  clear hK K
                  refine norm_ (a' := ?_) ?_ ?_
                  rotate_left
                  · show Act.put _ (some 61) _ = _
                    simp only [Act.put, List.setIfInBounds_toArray, List.set_cons_zero, List.set_cons_succ, i64_w, i32_w]
                    rfl
                  refine pure_ (i := 5) (N := some 62) (v := ?_) (a' := ?_) #[true, true, true, true, true, true, true, false, false, false, true, false, false, false, false, false] rfl rfl (any_of HT_.out (by kernel_rfl)) (fun _ _ _ h => h) (Or.inl ⟨by rfl, ?_⟩) ?_ ?_
                  rotate_left
                  · intro w'
                    go_simp
                    with_reducible rfl
                  rotate_left
                  · simp only [Act.put, List.setIfInBounds_toArray, List.set_cons_zero, List.set_cons_succ, i64_w, i32_w]
                    rfl
                  refine two_ (i := 7) (j := 9) (Ni := some 64) (Nj := some 66) #[true, true, true, true, true, true, true, true, false, false, true, false, false, false, false, false] #[true, true, true, true, true, true, true, false, false, true, true, false, false, false, false, false] rfl rfl rfl rfl (two_of HT_.out (by kernel_rfl)) (by decide) (by decide) (fun K hK => ?_) (fun K hK => ?_)
                  · skip
                    refine goes_ Tryd.func16 (by kernel_rfl) rfl #[.slice Ak nk ck, .string ⟨#[59]⟩] (by rfl) rfl rfl (by (try simp only [List.map_toArray, List.map_cons, List.map_nil]); first | done | rfl | (simp [Act.eval, *]; done)) ?_
                    refine (HNM.out _ Mwp1.out).mono ?_
                    rintro e wp2 ⟨rfl, hb⟩
                    refine ⟨_, rfl, ?_⟩
                    have Mwp2 := Aside0.mk (Mwp1.out.on hb)
                    clear hb
                    refine hK.out _ _ trivial (fun hHeld => ?_)
                    clear hK K
                    refine norm_ (a' := ?_) ?_ ?_
                    rotate_left
                    · show Act.put _ (some 64) _ = _
                      simp only [Act.put, List.setIfInBounds_toArray, List.set_cons_zero, List.set_cons_succ, i64_w, i32_w]
                      rfl
                    refine pure_ (i := 8) (N := some 65) (v := ?_) (a' := ?_) #[true, true, true, true, true, true, true, true, true, false, true, false, false, false, false, false] rfl rfl (any_of HT_.out (by kernel_rfl)) (fun _ _ _ h => h) (Or.inl ⟨by rfl, ?_⟩) ?_ ?_
                    rotate_left
                    · intro w'
                      go_simp
                      with_reducible rfl
                    rotate_left
                    · simp only [Act.put, List.setIfInBounds_toArray, List.set_cons_zero, List.set_cons_succ, i64_w, i32_w]
                      rfl
                    refine one_ (i := 9) (N := some 66) #[true, true, true, true, true, true, true, true, true, true, true, false, false, false, false, false] rfl rfl (one_of HT_.out (by kernel_rfl)) (by decide) (fun K hK => ?_)
                    refine Kd.R_lit_step Kd.string _ 9 ?hg (N := 66) ?hd (xs := ([⟨#[104]⟩, ⟨#[108]⟩] : List ByteArray)) (inner := [.string ⟨#[104]⟩, .string ⟨#[108]⟩]) (ok := fun _ => True) (okp := fun _ => True) ?hr ?hp (fun _ hk => hk) trivial (Below.refl _ _) (Nat.le_refl _) (by simp) ?_; (case hd => rfl); (case hg => rfl); (case hr => first | (go_simp; done) | (go_simp; rfl)); (case hp => exact Kd.reps_scalar (enc := Value.string) [⟨#[104]⟩, ⟨#[108]⟩])
                    intro Xwp3 wp3 ho hb hg_ hnew_
                    clear hg_ hnew_
                    have Mwp3 := Aside0.mk (Mwp2.out.on hb)
                    have Hwp3 := Aside0.mk ho
                    obtain ⟨gxwp3, cxwp3, exwp3, _, _⟩ := Kd.R_form ho (by decide)
                    replace exwp3 : Xwp3 = .slice (some ⟨gxwp3, 0, none⟩) 2 cxwp3 := exwp3
                    subst exwp3
                    clear ho hb
                    refine hK.out _ _ trivial (fun hHeld => ?_)
                    clear hK K
                    refine norm_ (a' := ?_) ?_ ?_
                    rotate_left
                    · show Act.put _ (some 66) _ = _
                      simp only [Act.put, List.setIfInBounds_toArray, List.set_cons_zero, List.set_cons_succ, i64_w, i32_w]
                      rfl
                    refine pure_ (i := 11) (N := some 68) (v := ?_) (a' := ?_) #[true, true, true, true, true, true, true, true, true, true, true, true, false, false, false, false] rfl rfl (any_of HT_.out (by kernel_rfl)) (fun _ _ _ h => h) (Or.inl ⟨by rfl, ?_⟩) ?_ ?_
                    rotate_left
                    · intro w'
                      go_simp
                      with_reducible rfl
                    rotate_left
                    · simp only [Act.put, List.setIfInBounds_toArray, List.set_cons_zero, List.set_cons_succ, i64_w, i32_w]
                      rfl
                    refine one_ (i := 12) (N := some 69) #[true, true, true, true, true, true, true, true, true, true, true, true, true, false, false, false] rfl rfl (one_of HT_.out (by kernel_rfl)) (by decide) (fun K hK => ?_)
                    obtain ⟨ad_, ea_, hx_⟩ := Kd.at_string (Kd.R_reads' Hwp3.out).2.2 which z0 z1
                    rw [HHL.out] at hx_
                    cases ea_
                    rw [add_plain] at hx_
                    (try simp only [Nat.zero_add] at hx_)
                    refine value_ (w1 := ?_) (v := ?_) (by rfl) rfl ?_ ?_
                    rotate_left 2
                    · go_simp
                      constructor
                      · rfl
                      · rfl
                    clear hx_
                    refine hK.out _ _ trivial (fun hHeld => ?_)
                    clear hK K
                    refine norm_ (a' := ?_) ?_ ?_
                    rotate_left
                    · show Act.put _ (some 69) _ = _
                      simp only [Act.put, List.setIfInBounds_toArray, List.set_cons_zero, List.set_cons_succ, i64_w, i32_w]
                      rfl
                    refine pure_ (i := 13) (N := some 70) (v := ?_) (a' := ?_) #[true, true, true, true, true, true, true, true, true, true, true, true, true, true, false, false] rfl rfl (any_of HT_.out (by kernel_rfl)) (fun _ _ _ h => h) (Or.inl ⟨by rfl, ?_⟩) ?_ ?_
                    rotate_left
                    · intro w'
                      go_simp
                      with_reducible rfl
                    rotate_left
                    · simp only [Act.put, List.setIfInBounds_toArray, List.set_cons_zero, List.set_cons_succ, i64_w, i32_w]
                      rfl
                    refine pure_ (i := 14) (N := some 71) (v := ?_) (a' := ?_) #[true, true, true, true, true, true, true, true, true, true, true, true, true, true, true, false] rfl rfl (any_of HT_.out (by kernel_rfl)) (fun _ _ _ h => h) (Or.inl ⟨by rfl, ?_⟩) ?_ ?_
                    rotate_left
                    · intro w'
                      go_simp
                      with_reducible rfl
                    rotate_left
                    · simp only [Act.put, List.setIfInBounds_toArray, List.set_cons_zero, List.set_cons_succ, i64_w, i32_w]
                      rfl
                    refine pure_ (i := 15) (N := some 10) (v := ?_) (a' := ?_) #[true, true, true, true, true, true, true, true, true, true, true, true, true, true, true, true] rfl rfl (any_of HT_.out (by kernel_rfl)) (fun _ _ _ h => h) (Or.inl ⟨by rfl, ?_⟩) ?_ ?_
                    rotate_left
                    · intro w'
                      go_simp
                      with_reducible rfl
                    rotate_left
                    · simp only [Act.put, List.setIfInBounds_toArray, List.set_cons_zero, List.set_cons_succ, i64_w, i32_w]
                      rfl
                    exact norm_ (by simp only [putAll, Act.put, List.setIfInBounds_toArray, List.set_cons_zero, List.set_cons_succ]) (hCont (.slice (some ⟨gxwp3, 0, none⟩) 2 cxwp3, .pointer (some ⟨gxwp3, which.toNat, none⟩)) _ Mwp3.out)
                  · skip
                    refine Kd.R_lit_step Kd.string _ 9 ?hg (N := 66) ?hd (xs := ([⟨#[104]⟩, ⟨#[108]⟩] : List ByteArray)) (inner := [.string ⟨#[104]⟩, .string ⟨#[108]⟩]) (ok := fun _ => True) (okp := fun _ => True) ?hr ?hp (fun _ hk => hk) trivial (Below.refl _ _) (Nat.le_refl _) (by simp) ?_; (case hd => rfl); (case hg => rfl); (case hr => first | (go_simp; done) | (go_simp; rfl)); (case hp => exact Kd.reps_scalar (enc := Value.string) [⟨#[104]⟩, ⟨#[108]⟩])
                    intro Xwp4 wp4 ho hb hg_ hnew_
                    clear hg_ hnew_
                    have Mwp4 := Aside0.mk (Mwp1.out.on hb)
                    have Hwp4 := Aside0.mk ho
                    obtain ⟨gxwp4, cxwp4, exwp4, _, _⟩ := Kd.R_form ho (by decide)
                    replace exwp4 : Xwp4 = .slice (some ⟨gxwp4, 0, none⟩) 2 cxwp4 := exwp4
                    subst exwp4
                    clear ho hb
                    refine hK.out _ _ trivial (fun hHeld => ?_)
                    clear hK K
                    refine norm_ (a' := ?_) ?_ ?_
                    rotate_left
                    · show Act.put _ (some 66) _ = _
                      simp only [Act.put, List.setIfInBounds_toArray, List.set_cons_zero, List.set_cons_succ, i64_w, i32_w]
                      rfl
                    refine pure_ (i := 11) (N := some 68) (v := ?_) (a' := ?_) #[true, true, true, true, true, true, true, false, false, true, true, true, false, false, false, false] rfl rfl (any_of HT_.out (by kernel_rfl)) (fun _ _ _ h => h) (Or.inl ⟨by rfl, ?_⟩) ?_ ?_
                    rotate_left
                    · intro w'
                      go_simp
                      with_reducible rfl
                    rotate_left
                    · simp only [Act.put, List.setIfInBounds_toArray, List.set_cons_zero, List.set_cons_succ, i64_w, i32_w]
                      rfl
                    refine two_ (i := 7) (j := 12) (Ni := some 64) (Nj := some 69) #[true, true, true, true, true, true, true, true, false, true, true, true, false, false, false, false] #[true, true, true, true, true, true, true, false, false, true, true, true, true, false, false, false] rfl rfl rfl rfl (two_of HT_.out (by kernel_rfl)) (by decide) (by decide) (fun K hK => ?_) (fun K hK => ?_)
                    · skip
                      refine goes_ Tryd.func16 (by kernel_rfl) rfl #[.slice Ak nk ck, .string ⟨#[59]⟩] (by rfl) rfl rfl (by (try simp only [List.map_toArray, List.map_cons, List.map_nil]); first | done | rfl | (simp [Act.eval, *]; done)) ?_
                      refine (HNM.out _ Mwp4.out).mono ?_
                      rintro e wp5 ⟨rfl, hb⟩
                      refine ⟨_, rfl, ?_⟩
                      have Mwp5 := Aside0.mk (Mwp4.out.on hb)
                      have HYwp5 := Aside0.mk (Kd.R_below Hwp4.out hb)
                      clear hb
                      refine hK.out _ _ trivial (fun hHeld => ?_)
                      clear hK K
                      refine norm_ (a' := ?_) ?_ ?_
                      rotate_left
                      · show Act.put _ (some 64) _ = _
                        simp only [Act.put, List.setIfInBounds_toArray, List.set_cons_zero, List.set_cons_succ, i64_w, i32_w]
                        rfl
                      refine pure_ (i := 8) (N := some 65) (v := ?_) (a' := ?_) #[true, true, true, true, true, true, true, true, true, true, true, true, false, false, false, false] rfl rfl (any_of HT_.out (by kernel_rfl)) (fun _ _ _ h => h) (Or.inl ⟨by rfl, ?_⟩) ?_ ?_
                      rotate_left
                      · intro w'
                        go_simp
                        with_reducible rfl
                      rotate_left
                      · simp only [Act.put, List.setIfInBounds_toArray, List.set_cons_zero, List.set_cons_succ, i64_w, i32_w]
                        rfl
                      refine one_ (i := 12) (N := some 69) #[true, true, true, true, true, true, true, true, true, true, true, true, true, false, false, false] rfl rfl (one_of HT_.out (by kernel_rfl)) (by decide) (fun K hK => ?_)
                      obtain ⟨ad_, ea_, hx_⟩ := Kd.at_string (Kd.R_reads' HYwp5.out).2.2 which z0 z1
                      rw [HHL.out] at hx_
                      cases ea_
                      rw [add_plain] at hx_
                      (try simp only [Nat.zero_add] at hx_)
                      refine value_ (w1 := ?_) (v := ?_) (by rfl) rfl ?_ ?_
                      rotate_left 2
                      · go_simp
                        constructor
                        · rfl
                        · rfl
                      clear hx_
                      refine hK.out _ _ trivial (fun hHeld => ?_)
                      clear hK K
                      refine norm_ (a' := ?_) ?_ ?_
                      rotate_left
                      · show Act.put _ (some 69) _ = _
                        simp only [Act.put, List.setIfInBounds_toArray, List.set_cons_zero, List.set_cons_succ, i64_w, i32_w]
                        rfl
                      refine pure_ (i := 13) (N := some 70) (v := ?_) (a' := ?_) #[true, true, true, true, true, true, true, true, true, true, true, true, true, true, false, false] rfl rfl (any_of HT_.out (by kernel_rfl)) (fun _ _ _ h => h) (Or.inl ⟨by rfl, ?_⟩) ?_ ?_
                      rotate_left
                      · intro w'
                        go_simp
                        with_reducible rfl
                      rotate_left
                      · simp only [Act.put, List.setIfInBounds_toArray, List.set_cons_zero, List.set_cons_succ, i64_w, i32_w]
                        rfl
                      refine pure_ (i := 14) (N := some 71) (v := ?_) (a' := ?_) #[true, true, true, true, true, true, true, true, true, true, true, true, true, true, true, false] rfl rfl (any_of HT_.out (by kernel_rfl)) (fun _ _ _ h => h) (Or.inl ⟨by rfl, ?_⟩) ?_ ?_
                      rotate_left
                      · intro w'
                        go_simp
                        with_reducible rfl
                      rotate_left
                      · simp only [Act.put, List.setIfInBounds_toArray, List.set_cons_zero, List.set_cons_succ, i64_w, i32_w]
                        rfl
                      refine pure_ (i := 15) (N := some 10) (v := ?_) (a' := ?_) #[true, true, true, true, true, true, true, true, true, true, true, true, true, true, true, true] rfl rfl (any_of HT_.out (by kernel_rfl)) (fun _ _ _ h => h) (Or.inl ⟨by rfl, ?_⟩) ?_ ?_
                      rotate_left
                      · intro w'
                        go_simp
                        with_reducible rfl
                      rotate_left
                      · simp only [Act.put, List.setIfInBounds_toArray, List.set_cons_zero, List.set_cons_succ, i64_w, i32_w]
                        rfl
                      exact norm_ (by simp only [putAll, Act.put, List.setIfInBounds_toArray, List.set_cons_zero, List.set_cons_succ]) (hCont (.slice (some ⟨gxwp4, 0, none⟩) 2 cxwp4, .pointer (some ⟨gxwp4, which.toNat, none⟩)) _ Mwp5.out)
                    · skip
                      obtain ⟨ad_, ea_, hx_⟩ := Kd.at_string (Kd.R_reads' Hwp4.out).2.2 which z0 z1
                      rw [HHL.out] at hx_
                      cases ea_
                      rw [add_plain] at hx_
                      (try simp only [Nat.zero_add] at hx_)
                      refine value_ (w1 := ?_) (v := ?_) (by rfl) rfl ?_ ?_
                      rotate_left 2
                      · go_simp
                        constructor
                        · rfl
                        · rfl
                      clear hx_
                      refine hK.out _ _ trivial (fun hHeld => ?_)
                      clear hK K
                      refine norm_ (a' := ?_) ?_ ?_
                      rotate_left
                      · show Act.put _ (some 69) _ = _
                        simp only [Act.put, List.setIfInBounds_toArray, List.set_cons_zero, List.set_cons_succ, i64_w, i32_w]
                        rfl
                      refine one_ (i := 7) (N := some 64) #[true, true, true, true, true, true, true, true, false, true, true, true, true, false, false, false] rfl rfl (one_of HT_.out (by kernel_rfl)) (by decide) (fun K hK => ?_)
                      refine goes_ Tryd.func16 (by kernel_rfl) rfl #[.slice Ak nk ck, .string ⟨#[59]⟩] (by rfl) rfl rfl (by (try simp only [List.map_toArray, List.map_cons, List.map_nil]); first | done | rfl | (simp [Act.eval, *]; done)) ?_
                      refine (HNM.out _ Mwp4.out).mono ?_
                      rintro e wp6 ⟨rfl, hb⟩
                      refine ⟨_, rfl, ?_⟩
                      have Mwp6 := Aside0.mk (Mwp4.out.on hb)
                      have HYwp6 := Aside0.mk (Kd.R_below Hwp4.out hb)
                      clear hb
                      refine hK.out _ _ trivial (fun hHeld => ?_)
                      clear hK K
                      refine norm_ (a' := ?_) ?_ ?_
                      rotate_left
                      · show Act.put _ (some 64) _ = _
                        simp only [Act.put, List.setIfInBounds_toArray, List.set_cons_zero, List.set_cons_succ, i64_w, i32_w]
                        rfl
                      refine pure_ (i := 8) (N := some 65) (v := ?_) (a' := ?_) #[true, true, true, true, true, true, true, true, true, true, true, true, true, false, false, false] rfl rfl (any_of HT_.out (by kernel_rfl)) (fun _ _ _ h => h) (Or.inl ⟨by rfl, ?_⟩) ?_ ?_
                      rotate_left
                      · intro w'
                        go_simp
                        with_reducible rfl
                      rotate_left
                      · simp only [Act.put, List.setIfInBounds_toArray, List.set_cons_zero, List.set_cons_succ, i64_w, i32_w]
                        rfl
                      refine pure_ (i := 13) (N := some 70) (v := ?_) (a' := ?_) #[true, true, true, true, true, true, true, true, true, true, true, true, true, true, false, false] rfl rfl (any_of HT_.out (by kernel_rfl)) (fun _ _ _ h => h) (Or.inl ⟨by rfl, ?_⟩) ?_ ?_
                      rotate_left
                      · intro w'
                        go_simp
                        with_reducible rfl
                      rotate_left
                      · simp only [Act.put, List.setIfInBounds_toArray, List.set_cons_zero, List.set_cons_succ, i64_w, i32_w]
                        rfl
                      refine pure_ (i := 14) (N := some 71) (v := ?_) (a' := ?_) #[true, true, true, true, true, true, true, true, true, true, true, true, true, true, true, false] rfl rfl (any_of HT_.out (by kernel_rfl)) (fun _ _ _ h => h) (Or.inl ⟨by rfl, ?_⟩) ?_ ?_
                      rotate_left
                      · intro w'
                        go_simp
                        with_reducible rfl
                      rotate_left
                      · simp only [Act.put, List.setIfInBounds_toArray, List.set_cons_zero, List.set_cons_succ, i64_w, i32_w]
                        rfl
                      refine pure_ (i := 15) (N := some 10) (v := ?_) (a' := ?_) #[true, true, true, true, true, true, true, true, true, true, true, true, true, true, true, true] rfl rfl (any_of HT_.out (by kernel_rfl)) (fun _ _ _ h => h) (Or.inl ⟨by rfl, ?_⟩) ?_ ?_
                      rotate_left
                      · intro w'
                        go_simp
                        with_reducible rfl
                      rotate_left
                      · simp only [Act.put, List.setIfInBounds_toArray, List.set_cons_zero, List.set_cons_succ, i64_w, i32_w]
                        rfl
                      exact norm_ (by simp only [putAll, Act.put, List.setIfInBounds_toArray, List.set_cons_zero, List.set_cons_succ]) (hCont (.slice (some ⟨gxwp4, 0, none⟩) 2 cxwp4, .pointer (some ⟨gxwp4, which.toNat, none⟩)) _ Mwp6.out)
                · skip
                  refine Kd.R_lit_step Kd.string _ 9 ?hg (N := 66) ?hd (xs := ([⟨#[104]⟩, ⟨#[108]⟩] : List ByteArray)) (inner := [.string ⟨#[104]⟩, .string ⟨#[108]⟩]) (ok := fun _ => True) (okp := fun _ => True) ?hr ?hp (fun _ hk => hk) trivial (Below.refl _ _) (Nat.le_refl _) (by simp) ?_; (case hd => rfl); (case hg => rfl); (case hr => first | (go_simp; done) | (go_simp; rfl)); (case hp => exact Kd.reps_scalar (enc := Value.string) [⟨#[104]⟩, ⟨#[108]⟩])
                  intro Xwp7 wp7 ho hb hg_ hnew_
                  clear hg_ hnew_
                  have Mwp7 := Aside0.mk (M0.out.on hb)
                  have Hwp7 := Aside0.mk ho
                  obtain ⟨gxwp7, cxwp7, exwp7, _, _⟩ := Kd.R_form ho (by decide)
                  replace exwp7 : Xwp7 = .slice (some ⟨gxwp7, 0, none⟩) 2 cxwp7 := exwp7
                  subst exwp7
                  clear ho hb
                  refine hK.out _ _ trivial (fun hHeld => ?_)
                  clear hK K
                  refine norm_ (a' := ?_) ?_ ?_
                  rotate_left
                  · show Act.put _ (some 66) _ = _
                    simp only [Act.put, List.setIfInBounds_toArray, List.set_cons_zero, List.set_cons_succ, i64_w, i32_w]
                    rfl
                  refine pure_ (i := 11) (N := some 68) (v := ?_) (a' := ?_) #[true, true, true, true, false, false, true, false, false, true, true, true, false, false, false, false] rfl rfl (any_of HT_.out (by kernel_rfl)) (fun _ _ _ h => h) (Or.inl ⟨by rfl, ?_⟩) ?_ ?_
                  rotate_left
                  · intro w'
                    go_simp
                    with_reducible rfl
                  rotate_left
                  · simp only [Act.put, List.setIfInBounds_toArray, List.set_cons_zero, List.set_cons_succ, i64_w, i32_w]
                    rfl
                  refine two_ (i := 4) (j := 12) (Ni := some 61) (Nj := some 69) #[true, true, true, true, true, false, true, false, false, true, true, true, false, false, false, false] #[true, true, true, true, false, false, true, false, false, true, true, true, true, false, false, false] rfl rfl rfl rfl (two_of HT_.out (by kernel_rfl)) (by decide) (by decide) (fun K hK => ?_) (fun K hK => ?_)
                  · skip
                    refine goes_ Tryd.func15 (by kernel_rfl) rfl #[.agg #[.bool true, .int .i64 0]] (by rfl) rfl rfl (by (try simp only [List.map_toArray, List.map_cons, List.map_nil]); first | done | rfl | (simp [Act.eval, *]; done)) ?_
                    refine (spec_Mode_mark.calls true 0 mk _ HMK.out).mono ?_
                    rintro e wp8 ⟨rfl, hb⟩
                    refine ⟨_, rfl, ?_⟩
                    have Mwp8 := Aside0.mk (Mwp7.out.on hb)
                    have HYwp8 := Aside0.mk (Kd.R_below Hwp7.out hb)
                    clear hb
                    refine hK.out _ _ trivial (fun hHeld => ?_)
                    clear hK K
                    refine norm_ (a' := ?_) ?_ ?_
                    rotate_left
                    · show Act.put _ (some 61) _ = _
                      simp only [Act.put, List.setIfInBounds_toArray, List.set_cons_zero, List.set_cons_succ, i64_w, i32_w]
                      rfl
                    refine pure_ (i := 5) (N := some 62) (v := ?_) (a' := ?_) #[true, true, true, true, true, true, true, false, false, true, true, true, false, false, false, false] rfl rfl (any_of HT_.out (by kernel_rfl)) (fun _ _ _ h => h) (Or.inl ⟨by rfl, ?_⟩) ?_ ?_
                    rotate_left
                    · intro w'
                      go_simp
                      with_reducible rfl
                    rotate_left
                    · simp only [Act.put, List.setIfInBounds_toArray, List.set_cons_zero, List.set_cons_succ, i64_w, i32_w]
                      rfl
                    refine two_ (i := 7) (j := 12) (Ni := some 64) (Nj := some 69) #[true, true, true, true, true, true, true, true, false, true, true, true, false, false, false, false] #[true, true, true, true, true, true, true, false, false, true, true, true, true, false, false, false] rfl rfl rfl rfl (two_of HT_.out (by kernel_rfl)) (by decide) (by decide) (fun K hK => ?_) (fun K hK => ?_)
                    · skip
                      refine goes_ Tryd.func16 (by kernel_rfl) rfl #[.slice Ak nk ck, .string ⟨#[59]⟩] (by rfl) rfl rfl (by (try simp only [List.map_toArray, List.map_cons, List.map_nil]); first | done | rfl | (simp [Act.eval, *]; done)) ?_
                      refine (HNM.out _ Mwp8.out).mono ?_
                      rintro e wp9 ⟨rfl, hb⟩
                      refine ⟨_, rfl, ?_⟩
                      have Mwp9 := Aside0.mk (Mwp8.out.on hb)
                      have HYwp9 := Aside0.mk (Kd.R_below HYwp8.out hb)
                      clear hb
                      refine hK.out _ _ trivial (fun hHeld => ?_)
                      clear hK K
                      refine norm_ (a' := ?_) ?_ ?_
                      rotate_left
                      · show Act.put _ (some 64) _ = _
                        simp only [Act.put, List.setIfInBounds_toArray, List.set_cons_zero, List.set_cons_succ, i64_w, i32_w]
                        rfl
                      refine pure_ (i := 8) (N := some 65) (v := ?_) (a' := ?_) #[true, true, true, true, true, true, true, true, true, true, true, true, false, false, false, false] rfl rfl (any_of HT_.out (by kernel_rfl)) (fun _ _ _ h => h) (Or.inl ⟨by rfl, ?_⟩) ?_ ?_
                      rotate_left
                      · intro w'
                        go_simp
                        with_reducible rfl
                      rotate_left
                      · simp only [Act.put, List.setIfInBounds_toArray, List.set_cons_zero, List.set_cons_succ, i64_w, i32_w]
                        rfl
                      refine one_ (i := 12) (N := some 69) #[true, true, true, true, true, true, true, true, true, true, true, true, true, false, false, false] rfl rfl (one_of HT_.out (by kernel_rfl)) (by decide) (fun K hK => ?_)
                      obtain ⟨ad_, ea_, hx_⟩ := Kd.at_string (Kd.R_reads' HYwp9.out).2.2 which z0 z1
                      rw [HHL.out] at hx_
                      cases ea_
                      rw [add_plain] at hx_
                      (try simp only [Nat.zero_add] at hx_)
                      refine value_ (w1 := ?_) (v := ?_) (by rfl) rfl ?_ ?_
                      rotate_left 2
                      · go_simp
                        constructor
                        · rfl
                        · rfl
                      clear hx_
                      refine hK.out _ _ trivial (fun hHeld => ?_)
                      clear hK K
                      refine norm_ (a' := ?_) ?_ ?_
                      rotate_left
                      · show Act.put _ (some 69) _ = _
                        simp only [Act.put, List.setIfInBounds_toArray, List.set_cons_zero, List.set_cons_succ, i64_w, i32_w]
                        rfl
                      refine pure_ (i := 13) (N := some 70) (v := ?_) (a' := ?_) #[true, true, true, true, true, true, true, true, true, true, true, true, true, true, false, false] rfl rfl (any_of HT_.out (by kernel_rfl)) (fun _ _ _ h => h) (Or.inl ⟨by rfl, ?_⟩) ?_ ?_
                      rotate_left
                      · intro w'
                        go_simp
                        with_reducible rfl
                      rotate_left
                      · simp only [Act.put, List.setIfInBounds_toArray, List.set_cons_zero, List.set_cons_succ, i64_w, i32_w]
                        rfl
                      refine pure_ (i := 14) (N := some 71) (v := ?_) (a' := ?_) #[true, true, true, true, true, true, true, true, true, true, true, true, true, true, true, false] rfl rfl (any_of HT_.out (by kernel_rfl)) (fun _ _ _ h => h) (Or.inl ⟨by rfl, ?_⟩) ?_ ?_
                      rotate_left
                      · intro w'
                        go_simp
                        with_reducible rfl
                      rotate_left
                      · simp only [Act.put, List.setIfInBounds_toArray, List.set_cons_zero, List.set_cons_succ, i64_w, i32_w]
                        rfl
                      refine pure_ (i := 15) (N := some 10) (v := ?_) (a' := ?_) #[true, true, true, true, true, true, true, true, true, true, true, true, true, true, true, true] rfl rfl (any_of HT_.out (by kernel_rfl)) (fun _ _ _ h => h) (Or.inl ⟨by rfl, ?_⟩) ?_ ?_
                      rotate_left
                      · intro w'
                        go_simp
                        with_reducible rfl
                      rotate_left
                      · simp only [Act.put, List.setIfInBounds_toArray, List.set_cons_zero, List.set_cons_succ, i64_w, i32_w]
                        rfl
                      exact norm_ (by simp only [putAll, Act.put, List.setIfInBounds_toArray, List.set_cons_zero, List.set_cons_succ]) (hCont (.slice (some ⟨gxwp7, 0, none⟩) 2 cxwp7, .pointer (some ⟨gxwp7, which.toNat, none⟩)) _ Mwp9.out)
                    · skip
                      obtain ⟨ad_, ea_, hx_⟩ := Kd.at_string (Kd.R_reads' HYwp8.out).2.2 which z0 z1
                      rw [HHL.out] at hx_
                      cases ea_
                      rw [add_plain] at hx_
                      (try simp only [Nat.zero_add] at hx_)
                      refine value_ (w1 := ?_) (v := ?_) (by rfl) rfl ?_ ?_
                      rotate_left 2
                      · go_simp
                        constructor
                        · rfl
                        · rfl
                      clear hx_
                      refine hK.out _ _ trivial (fun hHeld => ?_)
                      clear hK K
                      refine norm_ (a' := ?_) ?_ ?_
                      rotate_left
                      · show Act.put _ (some 69) _ = _
                        simp only [Act.put, List.setIfInBounds_toArray, List.set_cons_zero, List.set_cons_succ, i64_w, i32_w]
                        rfl
                      refine one_ (i := 7) (N := some 64) #[true, true, true, true, true, true, true, true, false, true, true, true, true, false, false, false] rfl rfl (one_of HT_.out (by kernel_rfl)) (by decide) (fun K hK => ?_)
                      refine goes_ Tryd.func16 (by kernel_rfl) rfl #[.slice Ak nk ck, .string ⟨#[59]⟩] (by rfl) rfl rfl (by (try simp only [List.map_toArray, List.map_cons, List.map_nil]); first | done | rfl | (simp [Act.eval, *]; done)) ?_
                      refine (HNM.out _ Mwp8.out).mono ?_
                      rintro e wp10 ⟨rfl, hb⟩
                      refine ⟨_, rfl, ?_⟩
                      have Mwp10 := Aside0.mk (Mwp8.out.on hb)
                      have HYwp10 := Aside0.mk (Kd.R_below HYwp8.out hb)
                      clear hb
                      refine hK.out _ _ trivial (fun hHeld => ?_)
                      clear hK K
                      refine norm_ (a' := ?_) ?_ ?_
                      rotate_left
                      · show Act.put _ (some 64) _ = _
                        simp only [Act.put, List.setIfInBounds_toArray, List.set_cons_zero, List.set_cons_succ, i64_w, i32_w]
                        rfl
                      refine pure_ (i := 8) (N := some 65) (v := ?_) (a' := ?_) #[true, true, true, true, true, true, true, true, true, true, true, true, true, false, false, false] rfl rfl (any_of HT_.out (by kernel_rfl)) (fun _ _ _ h => h) (Or.inl ⟨by rfl, ?_⟩) ?_ ?_
                      rotate_left
                      · intro w'
                        go_simp
                        with_reducible rfl
                      rotate_left
                      · simp only [Act.put, List.setIfInBounds_toArray, List.set_cons_zero, List.set_cons_succ, i64_w, i32_w]
                        rfl
                      refine pure_ (i := 13) (N := some 70) (v := ?_) (a' := ?_) #[true, true, true, true, true, true, true, true, true, true, true, true, true, true, false, false] rfl rfl (any_of HT_.out (by kernel_rfl)) (fun _ _ _ h => h) (Or.inl ⟨by rfl, ?_⟩) ?_ ?_
                      rotate_left
                      · intro w'
                        go_simp
                        with_reducible rfl
                      rotate_left
                      · simp only [Act.put, List.setIfInBounds_toArray, List.set_cons_zero, List.set_cons_succ, i64_w, i32_w]
                        rfl
                      refine pure_ (i := 14) (N := some 71) (v := ?_) (a' := ?_) #[true, true, true, true, true, true, true, true, true, true, true, true, true, true, true, false] rfl rfl (any_of HT_.out (by kernel_rfl)) (fun _ _ _ h => h) (Or.inl ⟨by rfl, ?_⟩) ?_ ?_
                      rotate_left
                      · intro w'
                        go_simp
                        with_reducible rfl
                      rotate_left
                      · simp only [Act.put, List.setIfInBounds_toArray, List.set_cons_zero, List.set_cons_succ, i64_w, i32_w]
                        rfl
                      refine pure_ (i := 15) (N := some 10) (v := ?_) (a' := ?_) #[true, true, true, true, true, true, true, true, true, true, true, true, true, true, true, true] rfl rfl (any_of HT_.out (by kernel_rfl)) (fun _ _ _ h => h) (Or.inl ⟨by rfl, ?_⟩) ?_ ?_
                      rotate_left
                      · intro w'
                        go_simp
                        with_reducible rfl
                      rotate_left
                      · simp only [Act.put, List.setIfInBounds_toArray, List.set_cons_zero, List.set_cons_succ, i64_w, i32_w]
                        rfl
                      exact norm_ (by simp only [putAll, Act.put, List.setIfInBounds_toArray, List.set_cons_zero, List.set_cons_succ]) (hCont (.slice (some ⟨gxwp7, 0, none⟩) 2 cxwp7, .pointer (some ⟨gxwp7, which.toNat, none⟩)) _ Mwp10.out)
                  · skip
                    obtain ⟨ad_, ea_, hx_⟩ := Kd.at_string (Kd.R_reads' Hwp7.out).2.2 which z0 z1
                    rw [HHL.out] at hx_
                    cases ea_
                    rw [add_plain] at hx_
                    (try simp only [Nat.zero_add] at hx_)
                    refine value_ (w1 := ?_) (v := ?_) (by rfl) rfl ?_ ?_
                    rotate_left 2
                    · go_simp
                      constructor
                      · rfl
                      · rfl
                    clear hx_
                    refine hK.out _ _ trivial (fun hHeld => ?_)
                    clear hK K
                    refine norm_ (a' := ?_) ?_ ?_
                    rotate_left
                    · show Act.put _ (some 69) _ = _
                      simp only [Act.put, List.setIfInBounds_toArray, List.set_cons_zero, List.set_cons_succ, i64_w, i32_w]
                      rfl
                    refine one_ (i := 4) (N := some 61) #[true, true, true, true, true, false, true, false, false, true, true, true, true, false, false, false] rfl rfl (one_of HT_.out (by kernel_rfl)) (by decide) (fun K hK => ?_)
                    refine goes_ Tryd.func15 (by kernel_rfl) rfl #[.agg #[.bool true, .int .i64 0]] (by rfl) rfl rfl (by (try simp only [List.map_toArray, List.map_cons, List.map_nil]); first | done | rfl | (simp [Act.eval, *]; done)) ?_
                    refine (spec_Mode_mark.calls true 0 mk _ HMK.out).mono ?_
                    rintro e wp11 ⟨rfl, hb⟩
                    refine ⟨_, rfl, ?_⟩
                    have Mwp11 := Aside0.mk (Mwp7.out.on hb)
                    have HYwp11 := Aside0.mk (Kd.R_below Hwp7.out hb)
                    clear hb
                    refine hK.out _ _ trivial (fun hHeld => ?_)
                    clear hK K
                    refine norm_ (a' := ?_) ?_ ?_
                    rotate_left
                    · show Act.put _ (some 61) _ = _
                      simp only [Act.put, List.setIfInBounds_toArray, List.set_cons_zero, List.set_cons_succ, i64_w, i32_w]
                      rfl
                    refine pure_ (i := 5) (N := some 62) (v := ?_) (a' := ?_) #[true, true, true, true, true, true, true, false, false, true, true, true, true, false, false, false] rfl rfl (any_of HT_.out (by kernel_rfl)) (fun _ _ _ h => h) (Or.inl ⟨by rfl, ?_⟩) ?_ ?_
                    rotate_left
                    · intro w'
                      go_simp
                      with_reducible rfl
                    rotate_left
                    · simp only [Act.put, List.setIfInBounds_toArray, List.set_cons_zero, List.set_cons_succ, i64_w, i32_w]
                      rfl
                    refine one_ (i := 7) (N := some 64) #[true, true, true, true, true, true, true, true, false, true, true, true, true, false, false, false] rfl rfl (one_of HT_.out (by kernel_rfl)) (by decide) (fun K hK => ?_)
                    refine goes_ Tryd.func16 (by kernel_rfl) rfl #[.slice Ak nk ck, .string ⟨#[59]⟩] (by rfl) rfl rfl (by (try simp only [List.map_toArray, List.map_cons, List.map_nil]); first | done | rfl | (simp [Act.eval, *]; done)) ?_
                    refine (HNM.out _ Mwp11.out).mono ?_
                    rintro e wp12 ⟨rfl, hb⟩
                    refine ⟨_, rfl, ?_⟩
                    have Mwp12 := Aside0.mk (Mwp11.out.on hb)
                    have HYwp12 := Aside0.mk (Kd.R_below HYwp11.out hb)
                    clear hb
                    refine hK.out _ _ trivial (fun hHeld => ?_)
                    clear hK K
                    refine norm_ (a' := ?_) ?_ ?_
                    rotate_left
                    · show Act.put _ (some 64) _ = _
                      simp only [Act.put, List.setIfInBounds_toArray, List.set_cons_zero, List.set_cons_succ, i64_w, i32_w]
                      rfl
                    refine pure_ (i := 8) (N := some 65) (v := ?_) (a' := ?_) #[true, true, true, true, true, true, true, true, true, true, true, true, true, false, false, false] rfl rfl (any_of HT_.out (by kernel_rfl)) (fun _ _ _ h => h) (Or.inl ⟨by rfl, ?_⟩) ?_ ?_
                    rotate_left
                    · intro w'
                      go_simp
                      with_reducible rfl
                    rotate_left
                    · simp only [Act.put, List.setIfInBounds_toArray, List.set_cons_zero, List.set_cons_succ, i64_w, i32_w]
                      rfl
                    refine pure_ (i := 13) (N := some 70) (v := ?_) (a' := ?_) #[true, true, true, true, true, true, true, true, true, true, true, true, true, true, false, false] rfl rfl (any_of HT_.out (by kernel_rfl)) (fun _ _ _ h => h) (Or.inl ⟨by rfl, ?_⟩) ?_ ?_
                    rotate_left
                    · intro w'
                      go_simp
                      with_reducible rfl
                    rotate_left
                    · simp only [Act.put, List.setIfInBounds_toArray, List.set_cons_zero, List.set_cons_succ, i64_w, i32_w]
                      rfl
                    refine pure_ (i := 14) (N := some 71) (v := ?_) (a' := ?_) #[true, true, true, true, true, true, true, true, true, true, true, true, true, true, true, false] rfl rfl (any_of HT_.out (by kernel_rfl)) (fun _ _ _ h => h) (Or.inl ⟨by rfl, ?_⟩) ?_ ?_
                    rotate_left
                    · intro w'
                      go_simp
                      with_reducible rfl
                    rotate_left
                    · simp only [Act.put, List.setIfInBounds_toArray, List.set_cons_zero, List.set_cons_succ, i64_w, i32_w]
                      rfl
                    refine pure_ (i := 15) (N := some 10) (v := ?_) (a' := ?_) #[true, true, true, true, true, true, true, true, true, true, true, true, true, true, true, true] rfl rfl (any_of HT_.out (by kernel_rfl)) (fun _ _ _ h => h) (Or.inl ⟨by rfl, ?_⟩) ?_ ?_
                    rotate_left
                    · intro w'
                      go_simp
                      with_reducible rfl
                    rotate_left
                    · simp only [Act.put, List.setIfInBounds_toArray, List.set_cons_zero, List.set_cons_succ, i64_w, i32_w]
                      rfl
                    exact norm_ (by simp only [putAll, Act.put, List.setIfInBounds_toArray, List.set_cons_zero, List.set_cons_succ]) (hCont (.slice (some ⟨gxwp7, 0, none⟩) 2 cxwp7, .pointer (some ⟨gxwp7, which.toNat, none⟩)) _ Mwp12.out)
              rintro ⟨x66, x68⟩ wj hMS
              have MJ := Aside0.mk (show MS w.heap.size w wj g v0 v1 v0 v1 va y0 y1 ya from hMS)
              clear hMS
              simp only [putAll, Act.put, List.setIfInBounds_toArray, List.set_cons_zero, List.set_cons_succ]
              refine done_ (done_of HT_.out (by kernel_rfl)) ?_
              clear hHeld
              go_wp2_with fail
              go_roundw
              case rel => exact ⟨2, _, by first | rfl | (simp [wrap64]; done), rfl, ⟨Or.inr (Or.inr ⟨rfl, by rw [HT2.out, HPART.out]⟩)⟩, MJ⟩
              case measure => simp [intOf]
            · rw [if_neg hp] at HPART
              obtain rfl : nk = 0 := by omega
              have hek := HEK.out
              go_wp2_with fail
              go_roundw
              case rel => exact ⟨2, _, by first | rfl | (simp [wrap64]; done), rfl, ⟨Or.inr (Or.inr ⟨rfl, by rw [HT2.out, HPART.out]⟩)⟩, HM⟩
              case measure => simp [intOf]
          · clear HC
            go_wp2
            go_ret
            exact ⟨by first | rfl | (rw [hout]; rfl), HM.out.b⟩

end Go.Proofs.YtakjcihjkagnfaaDoor.Mo
