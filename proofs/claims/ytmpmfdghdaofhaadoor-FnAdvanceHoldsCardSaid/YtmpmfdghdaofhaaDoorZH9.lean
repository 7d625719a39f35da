/- Texts of this claim, joined; what isn't needed is left out (wip/slim.py). -/
import Derived.Test.YtmpmfdghdaofhaaDoorZH8
import Derived.Laws.BitsLemmas
import Derived.Laws.Tables
namespace Go.Proofs.YtmpmfdghdaofhaaDoor.Ma
set_option linter.unusedVariables false
set_option linter.unusedSimpArgs false
open Go Go.RowKit Go.Proofs.YtmpmfdghdaofhaaDoorW.PrintWords Go.Proofs.YtmpmfdghdaofhaaDoorW.PrintLast Go.Proofs.YtmpmfdghdaofhaaDoorW.PrintMore
def opLit (o : Oper) : Option ByteArray := match o.op with
  | .index _ (.const (.string s)) _ => some s
  | _ => none
def codeLit : Code → Option ByteArray
  | .seq a b => (codeLit a).or (codeLit b)
  | .region _ ops _ => ops.toList.findSome? opLit
  | _ => none
noncomputable def zz : ByteArray := ((Tryd.f19.body.bind codeLit).getD ⟨#[]⟩)
theorem zz_size : zz.size = 4096 := by decide +kernel
noncomputable def ent (st c : Int) : Int := ((zz.data.toList.getD (st * 256 + c).toNat 0).toNat : Int)
noncomputable def nx (st c : Int) : Int := Go.bits .and .u8 (ent st c) 15
noncomputable def ac (st c : Int) : Int := ent st c / 16
theorem or_code (st c : Int) (h0 : 0 ≤ st) (h1 : st < 16) (h2 : 0 ≤ c) (h3 : c < 256) : Go.bits .or .i64 (st * 256) c = st * 256 + c := by
  obtain ⟨a, rfl⟩ := Int.eq_ofNat_of_zero_le h0
  obtain ⟨b, rfl⟩ := Int.eq_ofNat_of_zero_le h2
  have ha : a < 16 := by omega
  have hb : b < 256 := by omega
  have key : ∀ (x : Fin 16) (y : Fin 256), Go.bits .or .i64 (((x.val : Nat) : Int) * 256) ((y.val : Nat) : Int) = ((x.val : Nat) : Int) * 256 + ((y.val : Nat) : Int) := by decide +kernel
  exact key ⟨a, ha⟩ ⟨b, hb⟩
set_option maxHeartbeats 8000000 in
set_option maxRecDepth 100000 in
theorem table (w : World) : Calls Tryd.prog 18 #[] w fun e w' => e = .returned (.agg #[]) ∧ Below w.heap.size w w' := by
  go_enter Tryd.func18, Tryd.ntmps18
  go_wp2
  refine bodyPost_ret (results_cell_row rfl _ _ w.heap.size 45 #[] (0, 0) _ rfl (blk_new w _) Tryd.underlying45 rfl (by kernel_rfl)) rfl ?_
  exact ⟨rfl, below_alloc (Below.refl _ _) _⟩
set_option maxHeartbeats 8000000 in
set_option maxRecDepth 100000 in
theorem trans (st c : Int) (h0 : 0 ≤ st) (h1 : st < 16) (h2 : 0 ≤ c) (h3 : c < 256) (w : World) :
    Calls Tryd.prog 19 #[.agg #[], .int .u8 st, .int .u8 c] w fun e w' => e = .returned (.tuple #[.int .u8 (nx st c), .int .u8 (ac st c)]) ∧ Below w.heap.size w w' := by
  have hor := or_code st c h0 h1 h2 h3
  have b0 : 0 ≤ st * 256 + c := by omega
  have b1 : st * 256 + c < 4096 := by omega
  have hlt : (st * 256 + c).toNat < zz.data.toList.length := by
    rw [Array.length_toList]
    show _ < zz.size
    rw [zz_size]
    omega
  have hn : nx st c = Go.bits .and .u8 (((zz.data.toList[(st * 256 + c).toNat]'hlt).toNat : Nat) : Int) 15 := by
    unfold nx ent
    rw [List.getD_eq_getElem?_getD, List.getElem?_eq_getElem hlt]
    rfl
  have ha : ac st c = (((zz.data.toList[(st * 256 + c).toNat]'hlt).toNat : Nat) : Int) / 16 := by
    unfold ac ent
    rw [List.getD_eq_getElem?_getD, List.getElem?_eq_getElem hlt]
    rfl
  have HF := Aside0.mk (show ∀ (s : ByteArray), s = zz → ∀ (h : (st * 256 + c).toNat < s.size), Ending.returned (Value.tuple #[.int .u8 (Go.bits .and .u8 (((s[(st * 256 + c).toNat]'h).toNat : Nat) : Int) 15), .int .u8 ((((s[(st * 256 + c).toNat]'h).toNat : Nat) : Int) / 16)]) = Ending.returned (Value.tuple #[.int .u8 (nx st c), .int .u8 (ac st c)]) from by
    intro s hs h
    rw [hn, ha]
    subst hs
    rfl)
  clear hn ha
  go_enter Tryd.func19, Tryd.ntmps19
  go_wp2
  go_ret2
  exact ⟨HF.out _ (by kernel_rfl) _, below_alloc (Below.refl _ _) _⟩
end Go.Proofs.YtmpmfdghdaofhaaDoor.Ma

namespace Go.Proofs.YtmpmfdghdaofhaaDoor.Pm
set_option linter.unusedVariables false
set_option linter.unusedSimpArgs false
open Go Go.RowKit Go.Proofs.YtmpmfdghdaofhaaDoorW.PrintWords Go.Proofs.YtmpmfdghdaofhaaDoorW.PrintLast Go.Proofs.YtmpmfdghdaofhaaDoorW.PrintMore
structure PM where
  ps : List Int
  da : List Int
  dl : Nat
  pl : Nat
  cmd : Int
  st : Int
def cellsP (l : List Int) : Array Value := (l.map (fun x => (.int .i64 x : Value))).toArray
def cellsD (l : List Int) : Array Value := (l.map (fun x => (.int .u8 x : Value))).toArray
def pc (hs : Nat → Value) (gp gd n m dl pl : Nat) (cmd st : Int) : Array Value :=
  #[hs 0, hs 1, hs 2, hs 3, hs 4, hs 5, hs 6, hs 7, hs 8, .slice (some ⟨gp, 0, none⟩) n n, .slice (some ⟨gd, 0, none⟩) m m, .int .i64 (dl : Int), .int .i64 (pl : Int), .int .i64 cmd, .int .u8 st]
def Far3 (w w' : World) (g gp gd : Nat) : Prop := w.heap.size ≤ w'.heap.size ∧ ∀ k, k < w.heap.size → k ≠ g → k ≠ gp → k ≠ gd → w'.heap[k]? = w.heap[k]?
theorem Far3.refl (w : World) (g gp gd : Nat) : Far3 w w g gp gd := ⟨Nat.le_refl _, fun _ _ _ _ _ => rfl⟩
theorem Far3.trans {a b c : World} {g gp gd : Nat} (h : Far3 a b g gp gd) (k : Far3 b c g gp gd) : Far3 a c g gp gd :=
  ⟨Nat.le_trans h.1 k.1, fun i hi h1 h2 h3 => (k.2 i (Nat.lt_of_lt_of_le hi h.1) h1 h2 h3).trans (h.2 i hi h1 h2 h3)⟩
theorem Far3.of_below {a b : World} {g gp gd : Nat} (h : Below a.heap.size a b) : Far3 a b g gp gd := ⟨h.size, fun i hi _ _ _ => h.block i hi⟩
theorem Far3.set {a b : World} {g gp gd q j : Nat} (h : Far3 a b g gp gd) (hq : q = g ∨ q = gp ∨ q = gd) (v : Value) : Far3 a (b.setCell ⟨q, j, none⟩ v) g gp gd :=
  ⟨by simpa [World.setCell] using h.1, fun i hi h1 h2 h3 => (Below.heap_setCell b ⟨q, j, none⟩ v i (by rcases hq with e | e | e <;> (subst e; assumption))).trans (h.2 i hi h1 h2 h3)⟩
structure PV (hs : Nat → Value) (B : Nat) (w0 W : World) (g gp gd n m : Nat) (p : PM) : Prop where
  bc : W.heap[g]? = some (.cells (pc hs gp gd n m p.dl p.pl p.cmd p.st) 94 (0, 0))
  bp : W.heap[gp]? = some (.cells (cellsP p.ps) 3 (0, 0))
  bd : W.heap[gd]? = some (.cells (cellsD p.da) 5 (0, 0))
  hn : p.ps.length = n
  hm : p.da.length = m
  b : Below B w0 W
  f : Far3 w0 W g gp gd
  hg : B ≤ g
  hgp : B ≤ gp
  hgd : B ≤ gd
section
variable {hs : Nat → Value} {B : Nat} {w0 W W' : World} {g gp gd n m : Nat} {p : PM}
theorem PV.n1 (h : PV hs B w0 W g gp gd n m p) : gp ≠ g := by
  intro e
  have h1 := h.bp
  rw [e, h.bc] at h1
  simp at h1
theorem PV.n2 (h : PV hs B w0 W g gp gd n m p) : gd ≠ g := by
  intro e
  have h1 := h.bd
  rw [e, h.bc] at h1
  simp at h1
theorem PV.n3 (h : PV hs B w0 W g gp gd n m p) : gp ≠ gd := by
  intro e
  have h1 := h.bp
  rw [e, h.bd] at h1
  simp at h1
theorem PV.drew (h : PV hs B w0 W g gp gd n m p) : PV hs B w0 W.drew g gp gd n m p := ⟨h.bc, h.bp, h.bd, h.hn, h.hm, h.b.drew, h.f, h.hg, h.hgp, h.hgd⟩
theorem PV.far (h : PV hs B w0 W g gp gd n m p) (hb : Below W.heap.size W W') (hB : B ≤ W.heap.size) : PV hs B w0 W' g gp gd n m p :=
  ⟨(hb.block _ (blk_lt h.bc)).trans h.bc, (hb.block _ (blk_lt h.bp)).trans h.bp, (hb.block _ (blk_lt h.bd)).trans h.bd, h.hn, h.hm, h.b.trans (hb.mono hB), h.f.trans (Far3.of_below hb), h.hg, h.hgp, h.hgd⟩
theorem PV.set_dl (h : PV hs B w0 W g gp gd n m p) (x : Nat) (y : Int) (hy : y = (x : Int)) : PV hs B w0 (W.setCell ⟨g, 11, none⟩ (.int .i64 y)) g gp gd n m { p with dl := x } :=
  ⟨(blk_set h.bc 11 _).trans (by rw [hy]; rfl), blk_far h.bp (p := ⟨g, 11, none⟩) h.n1 _, blk_far h.bd (p := ⟨g, 11, none⟩) h.n2 _, h.hn, h.hm, h.b.setCell h.hg _, h.f.set (.inl rfl) _, h.hg, h.hgp, h.hgd⟩
theorem PV.set_pl (h : PV hs B w0 W g gp gd n m p) (x : Nat) (y : Int) (hy : y = (x : Int)) : PV hs B w0 (W.setCell ⟨g, 12, none⟩ (.int .i64 y)) g gp gd n m { p with pl := x } :=
  ⟨(blk_set h.bc 12 _).trans (by rw [hy]; rfl), blk_far h.bp (p := ⟨g, 12, none⟩) h.n1 _, blk_far h.bd (p := ⟨g, 12, none⟩) h.n2 _, h.hn, h.hm, h.b.setCell h.hg _, h.f.set (.inl rfl) _, h.hg, h.hgp, h.hgd⟩
theorem PV.set_cmd (h : PV hs B w0 W g gp gd n m p) (x : Int) : PV hs B w0 (W.setCell ⟨g, 13, none⟩ (.int .i64 x)) g gp gd n m { p with cmd := x } :=
  ⟨(blk_set h.bc 13 _).trans rfl, blk_far h.bp (p := ⟨g, 13, none⟩) h.n1 _, blk_far h.bd (p := ⟨g, 13, none⟩) h.n2 _, h.hn, h.hm, h.b.setCell h.hg _, h.f.set (.inl rfl) _, h.hg, h.hgp, h.hgd⟩
theorem PV.set_st (h : PV hs B w0 W g gp gd n m p) (x : Int) : PV hs B w0 (W.setCell ⟨g, 14, none⟩ (.int .u8 x)) g gp gd n m { p with st := x } :=
  ⟨(blk_set h.bc 14 _).trans rfl, blk_far h.bp (p := ⟨g, 14, none⟩) h.n1 _, blk_far h.bd (p := ⟨g, 14, none⟩) h.n2 _, h.hn, h.hm, h.b.setCell h.hg _, h.f.set (.inl rfl) _, h.hg, h.hgp, h.hgd⟩
theorem cellsP_set (l : List Int) (i : Nat) (x : Int) : (cellsP l).setIfInBounds i (.int .i64 x) = cellsP (l.set i x) := by
  unfold cellsP
  rw [List.setIfInBounds_toArray, List.map_set]
theorem cellsD_set (l : List Int) (i : Nat) (x : Int) : (cellsD l).setIfInBounds i (.int .u8 x) = cellsD (l.set i x) := by
  unfold cellsD
  rw [List.setIfInBounds_toArray, List.map_set]
theorem PV.set_p (h : PV hs B w0 W g gp gd n m p) (i : Nat) (x : Int) : PV hs B w0 (W.setCell ⟨gp, i, none⟩ (.int .i64 x)) g gp gd n m { p with ps := p.ps.set i x } :=
  ⟨blk_far h.bc (p := ⟨gp, i, none⟩) h.n1.symm _, (blk_set h.bp i _).trans (by rw [cellsP_set]), blk_far h.bd (p := ⟨gp, i, none⟩) h.n3.symm _, List.length_set.trans h.hn, h.hm, h.b.setCell h.hgp _, h.f.set (.inr (.inl rfl)) _, h.hg, h.hgp, h.hgd⟩
theorem PV.set_d (h : PV hs B w0 W g gp gd n m p) (i : Nat) (x : Int) : PV hs B w0 (W.setCell ⟨gd, i, none⟩ (.int .u8 x)) g gp gd n m { p with da := p.da.set i x } :=
  ⟨blk_far h.bc (p := ⟨gd, i, none⟩) h.n2.symm _, blk_far h.bp (p := ⟨gd, i, none⟩) h.n3 _, (blk_set h.bd i _).trans (by rw [cellsD_set]), h.hn, List.length_set.trans h.hm, h.b.setCell h.hgd _, h.f.set (.inr (.inr rfl)) _, h.hg, h.hgp, h.hgd⟩
theorem PV.free (h : PV hs B w0 W g gp gd n m p) (j : Nat) : W.frozen? ⟨g, j, none⟩ = false := blk_frozen h.bc j
theorem PV.freep (h : PV hs B w0 W g gp gd n m p) (j : Nat) : W.frozen? ⟨gp, j, none⟩ = false := blk_frozen h.bp j
theorem PV.freed (h : PV hs B w0 W g gp gd n m p) (j : Nat) : W.frozen? ⟨gd, j, none⟩ = false := blk_frozen h.bd j
theorem PV.ch (h : PV hs B w0 W g gp gd n m p) (j : Nat) (hj : j < 9) : W.cell? ⟨g, j, none⟩ = some (hs j) := by
  rw [blk_cell h.bc j]
  match j, hj with
  | 0, _ => rfl
  | 1, _ => rfl
  | 2, _ => rfl
  | 3, _ => rfl
  | 4, _ => rfl
  | 5, _ => rfl
  | 6, _ => rfl
  | 7, _ => rfl
  | 8, _ => rfl
theorem PV.c9 (h : PV hs B w0 W g gp gd n m p) : W.cell? ⟨g, 9, none⟩ = some (.slice (some ⟨gp, 0, none⟩) n n) := (blk_cell h.bc 9).trans rfl
theorem PV.c10 (h : PV hs B w0 W g gp gd n m p) : W.cell? ⟨g, 10, none⟩ = some (.slice (some ⟨gd, 0, none⟩) m m) := (blk_cell h.bc 10).trans rfl
theorem PV.c11 (h : PV hs B w0 W g gp gd n m p) : W.cell? ⟨g, 11, none⟩ = some (.int .i64 (p.dl : Int)) := (blk_cell h.bc 11).trans rfl
theorem PV.c12 (h : PV hs B w0 W g gp gd n m p) : W.cell? ⟨g, 12, none⟩ = some (.int .i64 (p.pl : Int)) := (blk_cell h.bc 12).trans rfl
theorem PV.c13 (h : PV hs B w0 W g gp gd n m p) : W.cell? ⟨g, 13, none⟩ = some (.int .i64 p.cmd) := (blk_cell h.bc 13).trans rfl
theorem PV.c14 (h : PV hs B w0 W g gp gd n m p) : W.cell? ⟨g, 14, none⟩ = some (.int .u8 p.st) := (blk_cell h.bc 14).trans rfl
theorem PV.cp (h : PV hs B w0 W g gp gd n m p) (i : Nat) (hi : i < n) : W.cell? ⟨gp, i, none⟩ = some (.int .i64 (p.ps.getD i 0)) := by
  rw [blk_cell h.bp i]
  unfold cellsP
  have hl : i < p.ps.length := by rw [h.hn]; exact hi
  rw [List.getElem?_toArray, List.getElem?_map, List.getElem?_eq_getElem hl, List.getD_eq_getElem?_getD, List.getElem?_eq_getElem hl]
  rfl
theorem PV.cd (h : PV hs B w0 W g gp gd n m p) (i : Nat) (hi : i < m) : W.cell? ⟨gd, i, none⟩ = some (.int .u8 (p.da.getD i 0)) := by
  rw [blk_cell h.bd i]
  unfold cellsD
  have hl : i < p.da.length := by rw [h.hm]; exact hi
  rw [List.getElem?_toArray, List.getElem?_map, List.getElem?_eq_getElem hl, List.getD_eq_getElem?_getD, List.getElem?_eq_getElem hl]
  rfl
end
def pclear (p : PM) : PM := { p with ps := p.ps.set 0 2147483647, pl := 0, cmd := 0 }
set_option maxHeartbeats 8000000 in
set_option maxRecDepth 100000 in
theorem clear_ (hs : Nat → Value) (B : Nat) (w0 w : World) (g gp gd n m : Nat) (p : PM) (h : PV hs B w0 w g gp gd n m p) :
    Calls Tryd.prog 71 #[.pointer (some ⟨g, 0, none⟩)] w fun e w' => e = .returned (.tuple #[]) ∧ PV hs B w0 w' g gp gd n m (pclear p) := by
  by_cases hn : 0 < n
  · have t0 : decide (0 < (n : Int)) = true := decide_eq_true (by omega)
    have H1 := h.set_p 0 2147483647
    have H2 := H1.set_pl 0 0 rfl
    have H3 := Aside0.mk (H2.set_cmd 0)
    have h9 := h.c9
    have q0 := h.cp 0 hn
    have qf := h.freep 0
    have q1 : (0 : Int) < (n : Int) := by omega
    have h12 := H1.c12
    have f12 := H1.free 12
    have h13 := H2.c13
    have f13 := H2.free 13
    clear h H1 H2 hn
    go_enter Tryd.func71, Tryd.ntmps71
    go_wp2
    go_end0
    exact ⟨rfl, H3.out⟩
  · obtain rfl : n = 0 := by omega
    have H1 := h.set_pl 0 0 rfl
    have H3 := Aside0.mk (show PV hs B w0 _ g gp gd 0 m (pclear p) from by
      have h_ := H1.set_cmd 0
      have e : p.ps = [] := List.length_eq_zero_iff.1 h.hn
      unfold pclear
      rw [e]
      rw [show ([] : List Int).set 0 2147483647 = [] from rfl]
      rw [e] at h_
      exact h_)
    have h9 := h.c9
    have h12 := h.c12
    have f12 := h.free 12
    have h13 := H1.c13
    have f13 := H1.free 13
    clear h H1 hn
    go_enter Tryd.func71, Tryd.ntmps71
    go_wp2
    go_end0
    exact ⟨rfl, H3.out⟩
end Go.Proofs.YtmpmfdghdaofhaaDoor.Pm

namespace Go.Proofs.YtmpmfdghdaofhaaDoor.Pm
set_option linter.unusedVariables false
set_option linter.unusedSimpArgs false
open Go Go.RowKit Go.Proofs.YtmpmfdghdaofhaaDoorW.PrintWords Go.Proofs.YtmpmfdghdaofhaaDoorW.PrintLast Go.Proofs.YtmpmfdghdaofhaaDoorW.PrintMore
def pexec (p : PM) (b : Int) : PM := { p with cmd := b }
def pprefix (p : PM) (b : Int) : PM := { p with cmd := Go.bits .or .i64 (Go.bits .andNot .i64 p.cmd 65280) (wrap64 (b * 256)) }
def pinter (p : PM) (b : Int) : PM := { p with cmd := Go.bits .or .i64 (Go.bits .andNot .i64 p.cmd 16711680) (wrap64 (b * 65536)) }
def pstart (p : PM) (b : Int) : PM := { p with dl := 0, cmd := if 4 ≤ p.st ∧ p.st ≤ 7 then Go.bits .or .i64 p.cmd b else 2147483647 }
set_option maxHeartbeats 8000000 in
set_option maxRecDepth 100000 in
theorem pa_none (hs : Nat → Value) (B : Nat) (w0 w : World) (g gp gd n m : Nat) (p : PM) (h : PV hs B w0 w g gp gd n m p) (st2 b : Int) (hb0 : 0 ≤ b) (hb1 : b < 256) :
    Calls Tryd.prog 68 #[.pointer (some ⟨g, 0, none⟩), .int .u8 0, .int .u8 st2, .int .u8 b] w fun e w' => e = .returned (.tuple #[]) ∧ PV hs B w0 w' g gp gd n m (p) := by
  have H := Aside0.mk h
  clear h hb0 hb1
  go_enter Tryd.func68, Tryd.ntmps68
  go_wp2
  go_end0
  exact ⟨rfl, H.out⟩
set_option maxHeartbeats 8000000 in
set_option maxRecDepth 100000 in
theorem pa_clear (hs : Nat → Value) (B : Nat) (w0 w : World) (g gp gd n m : Nat) (p : PM) (h : PV hs B w0 w g gp gd n m p) (st2 b : Int) (hb0 : 0 ≤ b) (hb1 : b < 256) :
    Calls Tryd.prog 68 #[.pointer (some ⟨g, 0, none⟩), .int .u8 1, .int .u8 st2, .int .u8 b] w fun e w' => e = .returned (.tuple #[]) ∧ PV hs B w0 w' g gp gd n m (pclear p) := by
  have H := Aside0.mk h
  clear h hb0 hb1
  go_enter Tryd.func68, Tryd.ntmps68
  go_wp2_with fail
  refine (clear_ hs B w0 w g gp gd n m p H.out).mono ?_
  rintro e w1 ⟨rfl, h1⟩
  go_wp2
  go_end0
  exact ⟨rfl, h1⟩
set_option maxHeartbeats 8000000 in
set_option maxRecDepth 100000 in
theorem pa_print (hs : Nat → Value) (B : Nat) (w0 w : World) (g gp gd n m : Nat) (p : PM) (h : PV hs B w0 w g gp gd n m p) (st2 b : Int) (hb0 : 0 ≤ b) (hb1 : b < 256) (hnil : hs 0 = .nilFunc) :
    Calls Tryd.prog 68 #[.pointer (some ⟨g, 0, none⟩), .int .u8 9, .int .u8 st2, .int .u8 b] w fun e w' => e = .returned (.tuple #[]) ∧ PV hs B w0 w' g gp gd n m (pexec p b) := by
  have hwb : wrap64 b = b := by unfold wrap64; omega
  have H1 := h.set_cmd b
  have c13 := h.c13
  have f13 := h.free 13
  have ch := (H1.ch 0 (by decide)).trans (congrArg some hnil)
  have H1 := Aside0.mk H1
  have hq : ∀ w_ : World, (binOp .neq 83 .nilFunc .nilFunc).run Tryd.prog w_ = .ok (.bool false) w_ := fun w_ => by kernel_rfl
  clear h hb0 hb1 hnil
  go_enter Tryd.func68, Tryd.ntmps68
  go_wp2
  go_end0
  exact ⟨rfl, H1.out⟩
set_option maxHeartbeats 8000000 in
set_option maxRecDepth 100000 in
theorem pa_exec (hs : Nat → Value) (B : Nat) (w0 w : World) (g gp gd n m : Nat) (p : PM) (h : PV hs B w0 w g gp gd n m p) (st2 b : Int) (hb0 : 0 ≤ b) (hb1 : b < 256) (hnil : hs 1 = .nilFunc) :
    Calls Tryd.prog 68 #[.pointer (some ⟨g, 0, none⟩), .int .u8 5, .int .u8 st2, .int .u8 b] w fun e w' => e = .returned (.tuple #[]) ∧ PV hs B w0 w' g gp gd n m (pexec p b) := by
  have hwb : wrap64 b = b := by unfold wrap64; omega
  have H1 := h.set_cmd b
  have c13 := h.c13
  have f13 := h.free 13
  have ch := (H1.ch 1 (by decide)).trans (congrArg some hnil)
  have H1 := Aside0.mk H1
  have hq : ∀ w_ : World, (binOp .neq 84 .nilFunc .nilFunc).run Tryd.prog w_ = .ok (.bool false) w_ := fun w_ => by kernel_rfl
  clear h hb0 hb1 hnil
  go_enter Tryd.func68, Tryd.ntmps68
  go_wp2
  go_end0
  exact ⟨rfl, H1.out⟩
set_option maxHeartbeats 8000000 in
set_option maxRecDepth 100000 in
theorem pa_prefix (hs : Nat → Value) (B : Nat) (w0 w : World) (g gp gd n m : Nat) (p : PM) (h : PV hs B w0 w g gp gd n m p) (st2 b : Int) (hb0 : 0 ≤ b) (hb1 : b < 256) :
    Calls Tryd.prog 68 #[.pointer (some ⟨g, 0, none⟩), .int .u8 3, .int .u8 st2, .int .u8 b] w fun e w' => e = .returned (.tuple #[]) ∧ PV hs B w0 w' g gp gd n m (pprefix p b) := by
  have hwb : wrap64 b = b := by unfold wrap64; omega
  have H1 := h.set_cmd (Go.bits .andNot .i64 p.cmd 65280)
  have H2 := H1.set_cmd (Go.bits .or .i64 (Go.bits .andNot .i64 p.cmd 65280) (wrap64 (b * 256)))
  have c13 := h.c13
  have f13 := h.free 13
  have d13 := H1.c13
  have e13 := H1.free 13
  have H2 := Aside0.mk H2
  clear h H1 hb0 hb1
  go_enter Tryd.func68, Tryd.ntmps68
  go_wp2
  go_end0
  exact ⟨rfl, H2.out⟩
set_option maxHeartbeats 8000000 in
set_option maxRecDepth 100000 in
theorem pa_inter (hs : Nat → Value) (B : Nat) (w0 w : World) (g gp gd n m : Nat) (p : PM) (h : PV hs B w0 w g gp gd n m p) (st2 b : Int) (hb0 : 0 ≤ b) (hb1 : b < 256) (hst2 : st2 ≠ 14) :
    Calls Tryd.prog 68 #[.pointer (some ⟨g, 0, none⟩), .int .u8 2, .int .u8 st2, .int .u8 b] w fun e w' => e = .returned (.tuple #[]) ∧ PV hs B w0 w' g gp gd n m (pinter p b) := by
  have hwb : wrap64 b = b := by unfold wrap64; omega
  have t2 : (st2 == 14) = false := by simpa using hst2
  have H1 := h.set_cmd (Go.bits .andNot .i64 p.cmd 16711680)
  have H2 := H1.set_cmd (Go.bits .or .i64 (Go.bits .andNot .i64 p.cmd 16711680) (wrap64 (b * 65536)))
  have c13 := h.c13
  have f13 := h.free 13
  have d13 := H1.c13
  have e13 := H1.free 13
  have H2 := Aside0.mk H2
  clear h H1 hb0 hb1
  go_enter Tryd.func68, Tryd.ntmps68
  go_wp2
  go_end0
  exact ⟨rfl, H2.out⟩
set_option maxHeartbeats 8000000 in
set_option maxRecDepth 100000 in
theorem pa_start_in (hs : Nat → Value) (B : Nat) (w0 w : World) (g gp gd n m : Nat) (p : PM) (h : PV hs B w0 w g gp gd n m p) (st2 b : Int) (hb0 : 0 ≤ b) (hb1 : b < 256) (hst : 4 ≤ p.st ∧ p.st ≤ 7) :
    Calls Tryd.prog 68 #[.pointer (some ⟨g, 0, none⟩), .int .u8 6, .int .u8 st2, .int .u8 b] w fun e w' => e = .returned (.tuple #[]) ∧ PV hs B w0 w' g gp gd n m (pstart p b) := by
  have hwb : wrap64 b = b := by unfold wrap64; omega
  have t4 : decide (4 ≤ p.st) = true := decide_eq_true hst.1
  have t7 : decide (p.st ≤ 7) = true := decide_eq_true hst.2
  have H1 := h.set_dl 0 0 rfl
  have H2 := Aside0.mk (show PV hs B w0 _ g gp gd n m (pstart p b) from by
    have h_ := H1.set_cmd (Go.bits .or .i64 p.cmd b)
    unfold pstart
    rw [if_pos hst]
    exact h_)
  have c11 := h.c11
  have f11 := h.free 11
  have c14 := H1.c14
  have c13 := H1.c13
  have f13 := H1.free 13
  have tdl : decide ((p.dl : Int) < 0) = false := decide_eq_false (by omega)
  clear h H1 hb0 hb1 hst
  go_enter Tryd.func68, Tryd.ntmps68
  go_wp2
  go_end0
  exact ⟨rfl, H2.out⟩
set_option maxHeartbeats 8000000 in
set_option maxRecDepth 100000 in
theorem pa_start_lo (hs : Nat → Value) (B : Nat) (w0 w : World) (g gp gd n m : Nat) (p : PM) (h : PV hs B w0 w g gp gd n m p) (st2 b : Int) (hb0 : 0 ≤ b) (hb1 : b < 256) (hst : p.st < 4) :
    Calls Tryd.prog 68 #[.pointer (some ⟨g, 0, none⟩), .int .u8 6, .int .u8 st2, .int .u8 b] w fun e w' => e = .returned (.tuple #[]) ∧ PV hs B w0 w' g gp gd n m (pstart p b) := by
  have hwb : wrap64 b = b := by unfold wrap64; omega
  have t4 : decide (4 ≤ p.st) = false := decide_eq_false (by omega)
  have H1 := h.set_dl 0 0 rfl
  have H2 := Aside0.mk (show PV hs B w0 _ g gp gd n m (pstart p b) from by
    have h_ := H1.set_cmd 2147483647
    unfold pstart
    rw [if_neg (by omega)]
    exact h_)
  have c11 := h.c11
  have f11 := h.free 11
  have c14 := H1.c14
  have c13 := H1.c13
  have f13 := H1.free 13
  have tdl : decide ((p.dl : Int) < 0) = false := decide_eq_false (by omega)
  clear h H1 hb0 hb1 hst
  go_enter Tryd.func68, Tryd.ntmps68
  go_wp2
  go_end0
  exact ⟨rfl, H2.out⟩
set_option maxHeartbeats 8000000 in
set_option maxRecDepth 100000 in
theorem pa_start_hi (hs : Nat → Value) (B : Nat) (w0 w : World) (g gp gd n m : Nat) (p : PM) (h : PV hs B w0 w g gp gd n m p) (st2 b : Int) (hb0 : 0 ≤ b) (hb1 : b < 256) (hst : 7 < p.st) :
    Calls Tryd.prog 68 #[.pointer (some ⟨g, 0, none⟩), .int .u8 6, .int .u8 st2, .int .u8 b] w fun e w' => e = .returned (.tuple #[]) ∧ PV hs B w0 w' g gp gd n m (pstart p b) := by
  have hwb : wrap64 b = b := by unfold wrap64; omega
  have t4 : decide (4 ≤ p.st) = true := decide_eq_true (by omega)
  have t7 : decide (p.st ≤ 7) = false := decide_eq_false (by omega)
  have H1 := h.set_dl 0 0 rfl
  have H2 := Aside0.mk (show PV hs B w0 _ g gp gd n m (pstart p b) from by
    have h_ := H1.set_cmd 2147483647
    unfold pstart
    rw [if_neg (by omega)]
    exact h_)
  have c11 := h.c11
  have f11 := h.free 11
  have c14 := H1.c14
  have c13 := H1.c13
  have f13 := H1.free 13
  have tdl : decide ((p.dl : Int) < 0) = false := decide_eq_false (by omega)
  clear h H1 hb0 hb1 hst
  go_enter Tryd.func68, Tryd.ntmps68
  go_wp2
  go_end0
  exact ⟨rfl, H2.out⟩
theorem pa_start (hs : Nat → Value) (B : Nat) (w0 w : World) (g gp gd n m : Nat) (p : PM) (h : PV hs B w0 w g gp gd n m p) (st2 b : Int) (hb0 : 0 ≤ b) (hb1 : b < 256) :
    Calls Tryd.prog 68 #[.pointer (some ⟨g, 0, none⟩), .int .u8 6, .int .u8 st2, .int .u8 b] w fun e w' => e = .returned (.tuple #[]) ∧ PV hs B w0 w' g gp gd n m (pstart p b) := by
  by_cases h1 : p.st < 4
  · exact pa_start_lo hs B w0 w g gp gd n m p h st2 b hb0 hb1 h1
  · by_cases h2 : 7 < p.st
    · exact pa_start_hi hs B w0 w g gp gd n m p h st2 b hb0 hb1 h2
    · exact pa_start_in hs B w0 w g gp gd n m p h st2 b hb0 hb1 ⟨by omega, by omega⟩
end Go.Proofs.YtmpmfdghdaofhaaDoor.Pm

namespace Go.Proofs.YtmpmfdghdaofhaaDoor.Pm
set_option linter.unusedVariables false
set_option linter.unusedSimpArgs false
open Go Go.RowKit Go.Proofs.YtmpmfdghdaofhaaDoorW.PrintWords Go.Proofs.YtmpmfdghdaofhaaDoorW.PrintLast Go.Proofs.YtmpmfdghdaofhaaDoorW.PrintMore
theorem PV.cpx {hs : Nat → Value} {B : Nat} {w0 W : World} {g gp gd n m : Nat} {p : PM} (h : PV hs B w0 W g gp gd n m p) {i : Nat} {x : Int} (hi : i < n) (hx : x = p.ps.getD i 0) : W.cell? ⟨gp, i, none⟩ = some (.int .i64 x) := by
  rw [hx]
  exact h.cp i hi
theorem PV.cps {hs : Nat → Value} {B : Nat} {w0 W : World} {g gp gd n m : Nat} {ps da : List Int} {dl pl : Nat} {cmd st : Int} {i : Nat} {v : Int} (h : PV hs B w0 W g gp gd n m ⟨ps.set i v, da, dl, pl, cmd, st⟩) (hi : i < n) : W.cell? ⟨gp, i, none⟩ = some (.int .i64 v) := by
  have hl : i < ps.length := by have := h.hn; simp only [List.length_set] at this; omega
  have h2 := h.cp i hi
  rw [show (ps.set i v).getD i 0 = v by rw [List.getD_eq_getElem?_getD, List.getElem?_set_self hl]; rfl] at h2
  exact h2
theorem set_set (l : List Int) (i : Nat) (a b : Int) : (l.set i a).set i b = l.set i b := List.set_set ..
def r22T : Bool × List (List Nat × List Nat) := (true, [([], []), ([0], [0]), ([1], [1]), ([2], [2]), ([], []), ([4], [4]), ([5], [5]), ([6], [6]), ([7], [7]), ([3, 8], [3, 8])])
def r22B : List Nat := [0, 1, 3, 7, 0, 16, 48, 112, 240, 511]
theorem r22_tab : rtab .any (opsOf Tryd.f68 22) = r22T := by kernel_rfl
theorem r22_bits : waitsOk r22T.2 r22B = true := by kernel_rfl
def r24T : Bool × List (List Nat × List Nat) := (true, [([], []), ([0], [0]), ([1], [1]), ([2], [2]), ([], []), ([4], [4]), ([5], [5]), ([6], [6]), ([3, 7], [3, 7]), ([8], [8]), ([9], [9])])
def r24B : List Nat := [0, 1, 3, 7, 0, 16, 48, 112, 255, 511, 1023]
theorem r24_tab : rtab .any (opsOf Tryd.f68 24) = r24T := by kernel_rfl
theorem r24_bits : waitsOk r24T.2 r24B = true := by kernel_rfl
def r25T : Bool × List (List Nat × List Nat) := (true, [([], []), ([0], [0]), ([1], [1]), ([2], [2]), ([], []), ([4], [4]), ([5], [5]), ([6], [6]), ([3, 7, 0, 1, 2, 3, 4, 5, 6, 7], [3, 7]), ([8, 0, 1, 2, 3, 4, 5, 6, 7], [8])])
def r25B : List Nat := [0, 1, 3, 7, 0, 16, 48, 112, 255, 511]
theorem r25_tab : rtab .any (opsOf Tryd.f68 25) = r25T := by kernel_rfl
theorem r25_bits : waitsOk r25T.2 r25B = true := by kernel_rfl
def r26T : Bool × List (List Nat × List Nat) := (true, [([], []), ([0], [0]), ([1], [1]), ([2], [2]), ([], []), ([4], [4]), ([5], [5]), ([6], [6]), ([3, 7], [3, 7]), ([8], [8]), ([9], [9]), ([3, 7, 0, 1, 2, 3, 4, 5, 6, 7, 8, 9, 10], [3, 7]), ([11, 10, 0, 1, 2, 3, 4, 5, 6, 7, 8, 9, 10], [10, 11])])
def r26B : List Nat := [0, 1, 3, 7, 0, 16, 48, 112, 255, 511, 1023, 2047, 4095]
theorem r26_tab : rtab .any (opsOf Tryd.f68 26) = r26T := by kernel_rfl
theorem r26_bits : waitsOk r26T.2 r26B = true := by kernel_rfl
def r27T : Bool × List (List Nat × List Nat) := (true, [([], []), ([0], [0]), ([1], [1]), ([2], [2]), ([], []), ([4], [4]), ([5], [5]), ([6], [6]), ([3, 7], [3, 7]), ([8], [8]), ([], []), ([10], [10]), ([11], [11]), ([9, 12], [9, 12]), ([3, 7, 0, 1, 2, 3, 4, 5, 6, 7, 8, 9, 10, 11, 12, 13], [3, 7]), ([14, 13, 0, 1, 2, 3, 4, 5, 6, 7, 8, 9, 10, 11, 12, 13], [13, 14])])
def r27B : List Nat := [0, 1, 3, 7, 0, 16, 48, 112, 255, 511, 0, 1024, 3072, 8191, 16383, 32767]
theorem r27_tab : rtab .any (opsOf Tryd.f68 27) = r27T := by kernel_rfl
theorem r27_bits : waitsOk r27T.2 r27B = true := by kernel_rfl
set_option maxHeartbeats 8000000 in
set_option maxRecDepth 100000 in
theorem pa_dig_miss (hs : Nat → Value) (B : Nat) (w0 w : World) (g gp gd n m : Nat) (p : PM) (h : PV hs B w0 w g gp gd n m p) (st2 b : Int) (hb0 : 0 ≤ b) (hb1 : b < 256) (hd : 48 ≤ b ∧ b ≤ 57) (hpl : p.pl < n) (hx0 : p.ps.getD p.pl 0 = 2147483647) :
    Calls Tryd.prog 68 #[.pointer (some ⟨g, 0, none⟩), .int .u8 8, .int .u8 st2, .int .u8 b] w fun e w' => e = .returned (.tuple #[]) ∧ PV hs B w0 w' g gp gd n m (⟨p.ps.set p.pl (wrap64 ((wrap64 0) + wrap64 (IntKind.u8.wrap (b - 48)))), p.da, p.dl, p.pl, p.cmd, p.st⟩) := by
  obtain ⟨ps, da, dl, pl, cmd, st⟩ := p
  replace hpl : pl < n := hpl
  replace hx0 : ps.getD pl 0 = 2147483647 := hx0
  obtain ⟨w1, hw1⟩ : ∃ w1, w1 = w := ⟨_, rfl⟩
  rw [← hw1]
  have H1 := Aside0.mk (show PV hs B w0 w1 g gp gd n m ⟨ps, da, dl, pl, cmd, st⟩ by rw [hw1]; exact h)
  clear hw1 h
  obtain ⟨x, hx⟩ : ∃ x, x = ps.getD pl 0 := ⟨_, rfl⟩
  have HX := Aside0.mk hx
  clear hx
  have HPL := Aside0.mk hpl
  have tn : decide ((n : Int) ≤ (pl : Int)) = false := decide_eq_false (by omega)
  have p0 : (0 : Int) ≤ (pl : Int) := by omega
  have p1 : (pl : Int) < (n : Int) := by omega
  have t48 : decide (48 ≤ b) = true := decide_eq_true hd.1
  have t57 : decide (b ≤ 57) = true := decide_eq_true hd.2
  have n58 : (b == 58) = false := by simp; omega
  have n59 : (b == 59) = false := by simp; omega
  have tx : (x == 2147483647) = true := by rw [HX.out]; simp; exact hx0
  clear hpl hx0 hd hb0 hb1
  go_enter Tryd.func68, Tryd.ntmps68
  go_wp2_with fail
  refine start_ (n := 10) (S := (fun w' => w'.cell? ⟨g, 9, none⟩ = some (.slice (some ⟨gp, 0, none⟩) n n) ∧ w'.cell? ⟨g, 12, none⟩ = some (.int .i64 (pl : Int)))) (ds := []) #[false, false, false, false, false, false, false, false, false, false] (by kernel_rfl) rfl rfl ⟨H1.out.c9, H1.out.c12⟩ (fun hHeld => ?_)
  refine with_tabW r22_tab r22_bits (fun HT_ HW_ => ?_)
  have H2d := Aside0.mk (show PV hs B w0 w1.drew g gp gd n m ⟨ps, da, dl, pl, cmd, st⟩ from H1.out.drew)
  clear H1
  generalize w1.drew = w2d at H2d hHeld ⊢
  refine pure_ (i := 0) (N := some 105) (v := ?_) (a' := ?_) (zF 10 1) rfl rfl (any_of HT_.out (by kernel_rfl)) (fun _ _ _ h => h) (Or.inl ⟨by rfl, ?_⟩) ?_ ?_
  rotate_left; (intro w'; go_simp; with_reducible rfl); rotate_left; (simp only [Act.put, zA, zZ, zS, i64_w, i32_w]; rfl)
  refine pure_ (i := 1) (N := some 106) (v := ?_) (a' := ?_) (zF 10 3) rfl rfl (any_of HT_.out (by kernel_rfl)) (fun _ _ _ h => h) (Or.inl ⟨by rfl, ?_⟩) ?_ ?_
  rotate_left; (intro w'; go_simp; with_reducible rfl); rotate_left; (simp only [Act.put, zA, zZ, zS, i64_w, i32_w]; rfl)
  refine pure_ (i := 2) (N := some 107) (v := ?_) (a' := ?_) (zF 10 7) rfl rfl (any_of HT_.out (by kernel_rfl)) (fun _ _ _ h => h) (Or.inl ⟨by rfl, ?_⟩) ?_ ?_
  rotate_left; (intro w'; go_simp; with_reducible rfl); rotate_left; (simp only [Act.put, zA, zZ, zS, i64_w, i32_w]; rfl)
  refine pure_ (i := 4) (N := some 109) (v := ?_) (a' := ?_) (zF 10 23) rfl rfl (any_of HT_.out (by kernel_rfl)) (fun _ _ _ h => h) (Or.inl ⟨by rfl, ?_⟩) ?_ ?_
  rotate_left; (intro w'; go_simp; with_reducible rfl); rotate_left; (simp only [Act.put, zA, zZ, zS, i64_w, i32_w]; rfl)
  refine pure_ (i := 5) (N := some 110) (v := ?_) (a' := ?_) (zF 10 55) rfl rfl (any_of HT_.out (by kernel_rfl)) (fun _ _ _ h => h) (Or.inl ⟨by rfl, ?_⟩) ?_ ?_
  rotate_left; (intro w'; go_simp; with_reducible rfl); rotate_left; (simp only [Act.put, zA, zZ, zS, i64_w, i32_w]; rfl)
  refine pure_ (i := 6) (N := some 111) (v := ?_) (a' := ?_) (zF 10 119) rfl rfl (any_of HT_.out (by kernel_rfl)) (fun _ _ _ h => h) (Or.inl ⟨by rfl, ?_⟩) ?_ ?_
  rotate_left; (intro w'; go_simp; with_reducible rfl); rotate_left; (simp only [Act.put, zA, zZ, zS, i64_w, i32_w]; rfl)
  refine take_ (i := 3) (N := some 108) (v := ?_) (a' := ?_) (zF 10 127) rfl rfl (take_ofW HT_.out HW_.out (by kernel_rfl)) (fun _ _ _ h => h) (Or.inl ⟨by rfl, ?_⟩) hHeld ?_ ?_
  rotate_left; (rintro w' ⟨s0, s1⟩; go_simp; with_reducible rfl); rotate_left; (simp only [Act.put, zA, zZ, zS, i64_w, i32_w]; rfl)
  refine take_ (i := 7) (N := some 112) (v := ?_) (a' := ?_) (zF 10 255) rfl rfl (take_ofW HT_.out HW_.out (by kernel_rfl)) (fun _ _ _ h => h) (Or.inl ⟨by rfl, ?_⟩) hHeld ?_ ?_
  rotate_left; (rintro w' ⟨s0, s1⟩; go_simp; with_reducible rfl); rotate_left; (simp only [Act.put, zA, zZ, zS, i64_w, i32_w]; rfl)
  refine pure_ (i := 8) (N := some 113) (v := ?_) (a' := ?_) (zF 10 511) rfl rfl (any_of HT_.out (by kernel_rfl)) (fun _ _ _ h => h) (Or.inl ⟨by rfl, ?_⟩) ?_ ?_
  rotate_left; (intro w'; go_simp; with_reducible rfl); rotate_left; (simp only [Act.put, zA, zZ, zS, i64_w, i32_w]; rfl)
  refine pure_ (i := 9) (N := some 114) (v := ?_) (a' := ?_) (zF 10 1023) rfl rfl (any_of HT_.out (by kernel_rfl)) (fun _ _ _ h => h) (Or.inl ⟨by rfl, ?_⟩) ?_ ?_
  rotate_left; (intro w'; go_simp; with_reducible rfl); rotate_left; (simp only [Act.put, zA, zZ, zS, i64_w, i32_w]; rfl)
  refine done_ (done_of HT_.out (by kernel_rfl)) ?_
  clear hHeld
  go_wp2_with fail
  refine start_ (n := 11) (S := (fun w' => w'.cell? ⟨g, 9, none⟩ = some (.slice (some ⟨gp, 0, none⟩) n n) ∧ w'.cell? ⟨g, 12, none⟩ = some (.int .i64 (pl : Int)) ∧ w'.cell? ⟨gp, pl, none⟩ = some (.int .i64 x))) (ds := []) #[false, false, false, false, false, false, false, false, false, false, false] (by kernel_rfl) rfl rfl ⟨H2d.out.c9, H2d.out.c12, H2d.out.cpx HPL.out HX.out⟩ (fun hHeld => ?_)
  refine with_tabW r24_tab r24_bits (fun HT_ HW_ => ?_)
  have H3d := Aside0.mk (show PV hs B w0 w2d.drew g gp gd n m ⟨ps, da, dl, pl, cmd, st⟩ from H2d.out.drew)
  clear H2d
  generalize w2d.drew = w3d at H3d hHeld ⊢
  refine pure_ (i := 0) (N := some 121) (v := ?_) (a' := ?_) (zF 11 1) rfl rfl (any_of HT_.out (by kernel_rfl)) (fun _ _ _ h => h) (Or.inl ⟨by rfl, ?_⟩) ?_ ?_
  rotate_left; (intro w'; go_simp; with_reducible rfl); rotate_left; (simp only [Act.put, zA, zZ, zS, i64_w, i32_w]; rfl)
  refine pure_ (i := 1) (N := some 122) (v := ?_) (a' := ?_) (zF 11 3) rfl rfl (any_of HT_.out (by kernel_rfl)) (fun _ _ _ h => h) (Or.inl ⟨by rfl, ?_⟩) ?_ ?_
  rotate_left; (intro w'; go_simp; with_reducible rfl); rotate_left; (simp only [Act.put, zA, zZ, zS, i64_w, i32_w]; rfl)
  refine pure_ (i := 2) (N := some 123) (v := ?_) (a' := ?_) (zF 11 7) rfl rfl (any_of HT_.out (by kernel_rfl)) (fun _ _ _ h => h) (Or.inl ⟨by rfl, ?_⟩) ?_ ?_
  rotate_left; (intro w'; go_simp; with_reducible rfl); rotate_left; (simp only [Act.put, zA, zZ, zS, i64_w, i32_w]; rfl)
  refine pure_ (i := 4) (N := some 125) (v := ?_) (a' := ?_) (zF 11 23) rfl rfl (any_of HT_.out (by kernel_rfl)) (fun _ _ _ h => h) (Or.inl ⟨by rfl, ?_⟩) ?_ ?_
  rotate_left; (intro w'; go_simp; with_reducible rfl); rotate_left; (simp only [Act.put, zA, zZ, zS, i64_w, i32_w]; rfl)
  refine pure_ (i := 5) (N := some 126) (v := ?_) (a' := ?_) (zF 11 55) rfl rfl (any_of HT_.out (by kernel_rfl)) (fun _ _ _ h => h) (Or.inl ⟨by rfl, ?_⟩) ?_ ?_
  rotate_left; (intro w'; go_simp; with_reducible rfl); rotate_left; (simp only [Act.put, zA, zZ, zS, i64_w, i32_w]; rfl)
  refine pure_ (i := 6) (N := some 127) (v := ?_) (a' := ?_) (zF 11 119) rfl rfl (any_of HT_.out (by kernel_rfl)) (fun _ _ _ h => h) (Or.inl ⟨by rfl, ?_⟩) ?_ ?_
  rotate_left; (intro w'; go_simp; with_reducible rfl); rotate_left; (simp only [Act.put, zA, zZ, zS, i64_w, i32_w]; rfl)
  refine take_ (i := 3) (N := some 124) (v := ?_) (a' := ?_) (zF 11 127) rfl rfl (take_ofW HT_.out HW_.out (by kernel_rfl)) (fun _ _ _ h => h) (Or.inl ⟨by rfl, ?_⟩) hHeld ?_ ?_
  rotate_left; (rintro w' ⟨s0, s1, s2⟩; go_simp; with_reducible rfl); rotate_left; (simp only [Act.put, zA, zZ, zS, i64_w, i32_w]; rfl)
  refine take_ (i := 7) (N := some 128) (v := ?_) (a' := ?_) (zF 11 255) rfl rfl (take_ofW HT_.out HW_.out (by kernel_rfl)) (fun _ _ _ h => h) (Or.inl ⟨by rfl, ?_⟩) hHeld ?_ ?_
  rotate_left; (rintro w' ⟨s0, s1, s2⟩; go_simp; with_reducible rfl); rotate_left; (simp only [Act.put, zA, zZ, zS, i64_w, i32_w]; rfl)
  refine pure_ (i := 8) (N := some 129) (v := ?_) (a' := ?_) (zF 11 511) rfl rfl (any_of HT_.out (by kernel_rfl)) (fun _ _ _ h => h) (Or.inl ⟨by rfl, ?_⟩) ?_ ?_
  rotate_left; (intro w'; go_simp; with_reducible rfl); rotate_left; (simp only [Act.put, zA, zZ, zS, i64_w, i32_w]; rfl)
  refine take_ (i := 9) (N := some 130) (v := ?_) (a' := ?_) (zF 11 1023) rfl rfl (take_ofW HT_.out HW_.out (by kernel_rfl)) (fun _ _ _ h => h) (Or.inl ⟨by rfl, ?_⟩) hHeld ?_ ?_
  rotate_left; (rintro w' ⟨s0, s1, s2⟩; go_simp; with_reducible rfl); rotate_left; (simp only [Act.put, zA, zZ, zS, i64_w, i32_w]; rfl)
  refine pure_ (i := 10) (N := some 131) (v := ?_) (a' := ?_) (zF 11 2047) rfl rfl (any_of HT_.out (by kernel_rfl)) (fun _ _ _ h => h) (Or.inl ⟨by rfl, ?_⟩) ?_ ?_
  rotate_left; (intro w'; go_simp; with_reducible rfl); rotate_left; (simp only [Act.put, zA, zZ, zS, i64_w, i32_w]; rfl)
  refine done_ (done_of HT_.out (by kernel_rfl)) ?_
  clear hHeld
  go_wp2_with fail
  refine start_ (n := 10) (S := (fun w' => w'.cell? ⟨g, 9, none⟩ = some (.slice (some ⟨gp, 0, none⟩) n n) ∧ w'.cell? ⟨g, 12, none⟩ = some (.int .i64 (pl : Int)))) (ds := [9]) #[false, false, false, false, false, false, false, false, false, false] (by kernel_rfl) rfl rfl ⟨H3d.out.c9, H3d.out.c12⟩ (fun hHeld => ?_)
  refine with_tabW r25_tab r25_bits (fun HT_ HW_ => ?_)
  have H4d := Aside0.mk (show PV hs B w0 w3d.drew g gp gd n m ⟨ps, da, dl, pl, cmd, st⟩ from H3d.out.drew)
  clear H3d
  generalize w3d.drew = w4d at H4d hHeld ⊢
  refine pure_ (i := 0) (N := some 132) (v := ?_) (a' := ?_) (zF 10 1) rfl rfl (any_of HT_.out (by kernel_rfl)) (fun _ _ _ h => h) (Or.inl ⟨by rfl, ?_⟩) ?_ ?_
  rotate_left; (intro w'; go_simp; with_reducible rfl); rotate_left; (simp only [Act.put, zA, zZ, zS, i64_w, i32_w]; rfl)
  refine pure_ (i := 1) (N := some 133) (v := ?_) (a' := ?_) (zF 10 3) rfl rfl (any_of HT_.out (by kernel_rfl)) (fun _ _ _ h => h) (Or.inl ⟨by rfl, ?_⟩) ?_ ?_
  rotate_left; (intro w'; go_simp; with_reducible rfl); rotate_left; (simp only [Act.put, zA, zZ, zS, i64_w, i32_w]; rfl)
  refine pure_ (i := 2) (N := some 134) (v := ?_) (a' := ?_) (zF 10 7) rfl rfl (any_of HT_.out (by kernel_rfl)) (fun _ _ _ h => h) (Or.inl ⟨by rfl, ?_⟩) ?_ ?_
  rotate_left; (intro w'; go_simp; with_reducible rfl); rotate_left; (simp only [Act.put, zA, zZ, zS, i64_w, i32_w]; rfl)
  refine pure_ (i := 4) (N := some 136) (v := ?_) (a' := ?_) (zF 10 23) rfl rfl (any_of HT_.out (by kernel_rfl)) (fun _ _ _ h => h) (Or.inl ⟨by rfl, ?_⟩) ?_ ?_
  rotate_left; (intro w'; go_simp; with_reducible rfl); rotate_left; (simp only [Act.put, zA, zZ, zS, i64_w, i32_w]; rfl)
  refine pure_ (i := 5) (N := some 137) (v := ?_) (a' := ?_) (zF 10 55) rfl rfl (any_of HT_.out (by kernel_rfl)) (fun _ _ _ h => h) (Or.inl ⟨by rfl, ?_⟩) ?_ ?_
  rotate_left; (intro w'; go_simp; with_reducible rfl); rotate_left; (simp only [Act.put, zA, zZ, zS, i64_w, i32_w]; rfl)
  refine pure_ (i := 6) (N := some 138) (v := ?_) (a' := ?_) (zF 10 119) rfl rfl (any_of HT_.out (by kernel_rfl)) (fun _ _ _ h => h) (Or.inl ⟨by rfl, ?_⟩) ?_ ?_
  rotate_left; (intro w'; go_simp; with_reducible rfl); rotate_left; (simp only [Act.put, zA, zZ, zS, i64_w, i32_w]; rfl)
  refine take_ (i := 3) (N := some 135) (v := ?_) (a' := ?_) (zF 10 127) rfl rfl (take_ofW HT_.out HW_.out (by kernel_rfl)) (fun _ _ _ h => h) (Or.inl ⟨by rfl, ?_⟩) hHeld ?_ ?_
  rotate_left; (rintro w' ⟨s0, s1⟩; go_simp; with_reducible rfl); rotate_left; (simp only [Act.put, zA, zZ, zS, i64_w, i32_w]; rfl)
  refine take_ (i := 7) (N := some 139) (v := ?_) (a' := ?_) (zF 10 255) rfl rfl (take_ofW HT_.out HW_.out (by kernel_rfl)) (fun _ _ _ h => h) (Or.inl ⟨by rfl, ?_⟩) hHeld ?_ ?_
  rotate_left; (rintro w' ⟨s0, s1⟩; go_simp; with_reducible rfl); rotate_left; (simp only [Act.put, zA, zZ, zS, i64_w, i32_w]; rfl)
  refine pure_ (i := 8) (N := some 140) (v := ?_) (a' := ?_) (zF 10 511) rfl rfl (any_of HT_.out (by kernel_rfl)) (fun _ _ _ h => h) (Or.inl ⟨by rfl, ?_⟩) ?_ ?_
  rotate_left; (intro w'; go_simp; with_reducible rfl); rotate_left; (simp only [Act.put, zA, zZ, zS, i64_w, i32_w]; rfl)
  refine last_ (i := 9) (N := none) (zF 10 1023) rfl rfl (one_of HT_.out (by kernel_rfl)) (by decide) (fun K hK => ?_)
  have q4d : w4d.cell? ⟨gp, pl, none⟩ = some (.int .i64 x) := H4d.out.cpx HPL.out HX.out
  have qf4d := H4d.out.freep pl
  refine skip_ (w1 := ?_) (by rfl) rfl ?_ ?_
  rotate_left
  · go_simp
    with_reducible rfl
  refine hK.out _ _ ?_
  clear hK K
  clear q4d qf4d
  refine done_ (done_of HT_.out (by kernel_rfl)) ?_
  clear hHeld
  have H4 := Aside0.mk (show PV hs B w0 (w4d.setCell ⟨gp, pl, none⟩ (.int .i64 0)) g gp gd n m ⟨ps.set pl 0, da, dl, pl, cmd, st⟩ from H4d.out.set_p pl 0)
  clear H4d
  generalize w4d.setCell ⟨gp, pl, none⟩ (.int .i64 0) = w4 at H4 ⊢
  go_wp2_with fail
  refine start_ (n := 13) (S := (fun w' => w'.cell? ⟨g, 9, none⟩ = some (.slice (some ⟨gp, 0, none⟩) n n) ∧ w'.cell? ⟨g, 12, none⟩ = some (.int .i64 (pl : Int)) ∧ w'.cell? ⟨gp, pl, none⟩ = some (.int .i64 0))) (ds := [12]) #[false, false, false, false, false, false, false, false, false, false, false, false, false] (by kernel_rfl) rfl rfl ⟨H4.out.c9, H4.out.c12, H4.out.cps HPL.out⟩ (fun hHeld => ?_)
  refine with_tabW r26_tab r26_bits (fun HT_ HW_ => ?_)
  have H5d := Aside0.mk (show PV hs B w0 w4.drew g gp gd n m ⟨ps.set pl 0, da, dl, pl, cmd, st⟩ from H4.out.drew)
  clear H4
  generalize w4.drew = w5d at H5d hHeld ⊢
  refine pure_ (i := 0) (N := some 141) (v := ?_) (a' := ?_) (zF 13 1) rfl rfl (any_of HT_.out (by kernel_rfl)) (fun _ _ _ h => h) (Or.inl ⟨by rfl, ?_⟩) ?_ ?_
  rotate_left; (intro w'; go_simp; with_reducible rfl); rotate_left; (simp only [Act.put, zA, zZ, zS, i64_w, i32_w]; rfl)
  refine pure_ (i := 1) (N := some 142) (v := ?_) (a' := ?_) (zF 13 3) rfl rfl (any_of HT_.out (by kernel_rfl)) (fun _ _ _ h => h) (Or.inl ⟨by rfl, ?_⟩) ?_ ?_
  rotate_left; (intro w'; go_simp; with_reducible rfl); rotate_left; (simp only [Act.put, zA, zZ, zS, i64_w, i32_w]; rfl)
  refine pure_ (i := 2) (N := some 143) (v := ?_) (a' := ?_) (zF 13 7) rfl rfl (any_of HT_.out (by kernel_rfl)) (fun _ _ _ h => h) (Or.inl ⟨by rfl, ?_⟩) ?_ ?_
  rotate_left; (intro w'; go_simp; with_reducible rfl); rotate_left; (simp only [Act.put, zA, zZ, zS, i64_w, i32_w]; rfl)
  refine pure_ (i := 4) (N := some 145) (v := ?_) (a' := ?_) (zF 13 23) rfl rfl (any_of HT_.out (by kernel_rfl)) (fun _ _ _ h => h) (Or.inl ⟨by rfl, ?_⟩) ?_ ?_
  rotate_left; (intro w'; go_simp; with_reducible rfl); rotate_left; (simp only [Act.put, zA, zZ, zS, i64_w, i32_w]; rfl)
  refine pure_ (i := 5) (N := some 146) (v := ?_) (a' := ?_) (zF 13 55) rfl rfl (any_of HT_.out (by kernel_rfl)) (fun _ _ _ h => h) (Or.inl ⟨by rfl, ?_⟩) ?_ ?_
  rotate_left; (intro w'; go_simp; with_reducible rfl); rotate_left; (simp only [Act.put, zA, zZ, zS, i64_w, i32_w]; rfl)
  refine pure_ (i := 6) (N := some 147) (v := ?_) (a' := ?_) (zF 13 119) rfl rfl (any_of HT_.out (by kernel_rfl)) (fun _ _ _ h => h) (Or.inl ⟨by rfl, ?_⟩) ?_ ?_
  rotate_left; (intro w'; go_simp; with_reducible rfl); rotate_left; (simp only [Act.put, zA, zZ, zS, i64_w, i32_w]; rfl)
  refine take_ (i := 3) (N := some 144) (v := ?_) (a' := ?_) (zF 13 127) rfl rfl (take_ofW HT_.out HW_.out (by kernel_rfl)) (fun _ _ _ h => h) (Or.inl ⟨by rfl, ?_⟩) hHeld ?_ ?_
  rotate_left; (rintro w' ⟨s0, s1, s2⟩; go_simp; with_reducible rfl); rotate_left; (simp only [Act.put, zA, zZ, zS, i64_w, i32_w]; rfl)
  refine take_ (i := 7) (N := some 148) (v := ?_) (a' := ?_) (zF 13 255) rfl rfl (take_ofW HT_.out HW_.out (by kernel_rfl)) (fun _ _ _ h => h) (Or.inl ⟨by rfl, ?_⟩) hHeld ?_ ?_
  rotate_left; (rintro w' ⟨s0, s1, s2⟩; go_simp; with_reducible rfl); rotate_left; (simp only [Act.put, zA, zZ, zS, i64_w, i32_w]; rfl)
  refine pure_ (i := 8) (N := some 149) (v := ?_) (a' := ?_) (zF 13 511) rfl rfl (any_of HT_.out (by kernel_rfl)) (fun _ _ _ h => h) (Or.inl ⟨by rfl, ?_⟩) ?_ ?_
  rotate_left; (intro w'; go_simp; with_reducible rfl); rotate_left; (simp only [Act.put, zA, zZ, zS, i64_w, i32_w]; rfl)
  refine take_ (i := 9) (N := some 150) (v := ?_) (a' := ?_) (zF 13 1023) rfl rfl (take_ofW HT_.out HW_.out (by kernel_rfl)) (fun _ _ _ h => h) (Or.inl ⟨by rfl, ?_⟩) hHeld ?_ ?_
  rotate_left; (rintro w' ⟨s0, s1, s2⟩; go_simp; with_reducible rfl); rotate_left; (simp only [Act.put, zA, zZ, zS, i64_w, i32_w]; rfl)
  refine pure_ (i := 10) (N := some 151) (v := ?_) (a' := ?_) (zF 13 2047) rfl rfl (any_of HT_.out (by kernel_rfl)) (fun _ _ _ h => h) (Or.inl ⟨by rfl, ?_⟩) ?_ ?_
  rotate_left; (intro w'; go_simp; with_reducible rfl); rotate_left; (simp only [Act.put, zA, zZ, zS, i64_w, i32_w]; rfl)
  refine pure_ (i := 11) (N := some 152) (v := ?_) (a' := ?_) (zF 13 4095) rfl rfl (any_of HT_.out (by kernel_rfl)) (fun _ _ _ h => h) (Or.inl ⟨by rfl, ?_⟩) ?_ ?_
  rotate_left; (intro w'; go_simp; with_reducible rfl); rotate_left; (simp only [Act.put, zA, zZ, zS, i64_w, i32_w]; rfl)
  refine last_ (i := 12) (N := none) (zF 13 8191) rfl rfl (one_of HT_.out (by kernel_rfl)) (by decide) (fun K hK => ?_)
  have q5d : w5d.cell? ⟨gp, pl, none⟩ = some (.int .i64 0) := H5d.out.cps HPL.out
  have qf5d := H5d.out.freep pl
  refine skip_ (w1 := ?_) (by rfl) rfl ?_ ?_
  rotate_left
  · go_simp
    with_reducible rfl
  refine hK.out _ _ ?_
  clear hK K
  clear q5d qf5d
  refine done_ (done_of HT_.out (by kernel_rfl)) ?_
  clear hHeld
  have H5 := Aside0.mk (show PV hs B w0 (w5d.setCell ⟨gp, pl, none⟩ (.int .i64 (wrap64 0))) g gp gd n m ⟨(ps.set pl 0).set pl (wrap64 0), da, dl, pl, cmd, st⟩ from H5d.out.set_p pl (wrap64 0))
  clear H5d
  generalize w5d.setCell ⟨gp, pl, none⟩ (.int .i64 (wrap64 0)) = w5 at H5 ⊢
  go_wp2_with fail
  refine start_ (n := 16) (S := (fun w' => w'.cell? ⟨g, 9, none⟩ = some (.slice (some ⟨gp, 0, none⟩) n n) ∧ w'.cell? ⟨g, 12, none⟩ = some (.int .i64 (pl : Int)) ∧ w'.cell? ⟨gp, pl, none⟩ = some (.int .i64 (wrap64 0)))) (ds := [15]) #[false, false, false, false, false, false, false, false, false, false, false, false, false, false, false, false] (by kernel_rfl) rfl rfl ⟨H5.out.c9, H5.out.c12, H5.out.cps HPL.out⟩ (fun hHeld => ?_)
  refine with_tabW r27_tab r27_bits (fun HT_ HW_ => ?_)
  have H6d := Aside0.mk (show PV hs B w0 w5.drew g gp gd n m ⟨(ps.set pl 0).set pl (wrap64 0), da, dl, pl, cmd, st⟩ from H5.out.drew)
  clear H5
  generalize w5.drew = w6d at H6d hHeld ⊢
  refine pure_ (i := 0) (N := some 153) (v := ?_) (a' := ?_) (zF 16 1) rfl rfl (any_of HT_.out (by kernel_rfl)) (fun _ _ _ h => h) (Or.inl ⟨by rfl, ?_⟩) ?_ ?_
  rotate_left; (intro w'; go_simp; with_reducible rfl); rotate_left; (simp only [Act.put, zA, zZ, zS, i64_w, i32_w]; rfl)
  refine pure_ (i := 1) (N := some 154) (v := ?_) (a' := ?_) (zF 16 3) rfl rfl (any_of HT_.out (by kernel_rfl)) (fun _ _ _ h => h) (Or.inl ⟨by rfl, ?_⟩) ?_ ?_
  rotate_left; (intro w'; go_simp; with_reducible rfl); rotate_left; (simp only [Act.put, zA, zZ, zS, i64_w, i32_w]; rfl)
  refine pure_ (i := 2) (N := some 155) (v := ?_) (a' := ?_) (zF 16 7) rfl rfl (any_of HT_.out (by kernel_rfl)) (fun _ _ _ h => h) (Or.inl ⟨by rfl, ?_⟩) ?_ ?_
  rotate_left; (intro w'; go_simp; with_reducible rfl); rotate_left; (simp only [Act.put, zA, zZ, zS, i64_w, i32_w]; rfl)
  refine pure_ (i := 4) (N := some 157) (v := ?_) (a' := ?_) (zF 16 23) rfl rfl (any_of HT_.out (by kernel_rfl)) (fun _ _ _ h => h) (Or.inl ⟨by rfl, ?_⟩) ?_ ?_
  rotate_left; (intro w'; go_simp; with_reducible rfl); rotate_left; (simp only [Act.put, zA, zZ, zS, i64_w, i32_w]; rfl)
  refine pure_ (i := 5) (N := some 158) (v := ?_) (a' := ?_) (zF 16 55) rfl rfl (any_of HT_.out (by kernel_rfl)) (fun _ _ _ h => h) (Or.inl ⟨by rfl, ?_⟩) ?_ ?_
  rotate_left; (intro w'; go_simp; with_reducible rfl); rotate_left; (simp only [Act.put, zA, zZ, zS, i64_w, i32_w]; rfl)
  refine pure_ (i := 6) (N := some 159) (v := ?_) (a' := ?_) (zF 16 119) rfl rfl (any_of HT_.out (by kernel_rfl)) (fun _ _ _ h => h) (Or.inl ⟨by rfl, ?_⟩) ?_ ?_
  rotate_left; (intro w'; go_simp; with_reducible rfl); rotate_left; (simp only [Act.put, zA, zZ, zS, i64_w, i32_w]; rfl)
  refine pure_ (i := 10) (N := some 163) (v := ?_) (a' := ?_) (zF 16 1143) rfl rfl (any_of HT_.out (by kernel_rfl)) (fun _ _ _ h => h) (Or.inl ⟨by rfl, ?_⟩) ?_ ?_
  rotate_left; (intro w'; go_simp; with_reducible rfl); rotate_left; (simp only [Act.put, zA, zZ, zS, i64_w, i32_w]; rfl)
  refine pure_ (i := 11) (N := some 164) (v := ?_) (a' := ?_) (zF 16 3191) rfl rfl (any_of HT_.out (by kernel_rfl)) (fun _ _ _ h => h) (Or.inl ⟨by rfl, ?_⟩) ?_ ?_
  rotate_left; (intro w'; go_simp; with_reducible rfl); rotate_left; (simp only [Act.put, zA, zZ, zS, i64_w, i32_w]; rfl)
  refine pure_ (i := 12) (N := some 165) (v := ?_) (a' := ?_) (zF 16 7287) rfl rfl (any_of HT_.out (by kernel_rfl)) (fun _ _ _ h => h) (Or.inl ⟨by rfl, ?_⟩) ?_ ?_
  rotate_left; (intro w'; go_simp; with_reducible rfl); rotate_left; (simp only [Act.put, zA, zZ, zS, i64_w, i32_w]; rfl)
  refine take_ (i := 3) (N := some 156) (v := ?_) (a' := ?_) (zF 16 7295) rfl rfl (take_ofW HT_.out HW_.out (by kernel_rfl)) (fun _ _ _ h => h) (Or.inl ⟨by rfl, ?_⟩) hHeld ?_ ?_
  rotate_left; (rintro w' ⟨s0, s1, s2⟩; go_simp; with_reducible rfl); rotate_left; (simp only [Act.put, zA, zZ, zS, i64_w, i32_w]; rfl)
  refine take_ (i := 7) (N := some 160) (v := ?_) (a' := ?_) (zF 16 7423) rfl rfl (take_ofW HT_.out HW_.out (by kernel_rfl)) (fun _ _ _ h => h) (Or.inl ⟨by rfl, ?_⟩) hHeld ?_ ?_
  rotate_left; (rintro w' ⟨s0, s1, s2⟩; go_simp; with_reducible rfl); rotate_left; (simp only [Act.put, zA, zZ, zS, i64_w, i32_w]; rfl)
  refine pure_ (i := 8) (N := some 161) (v := ?_) (a' := ?_) (zF 16 7679) rfl rfl (any_of HT_.out (by kernel_rfl)) (fun _ _ _ h => h) (Or.inl ⟨by rfl, ?_⟩) ?_ ?_
  rotate_left; (intro w'; go_simp; with_reducible rfl); rotate_left; (simp only [Act.put, zA, zZ, zS, i64_w, i32_w]; rfl)
  refine take_ (i := 9) (N := some 162) (v := ?_) (a' := ?_) (zF 16 8191) rfl rfl (take_ofW HT_.out HW_.out (by kernel_rfl)) (fun _ _ _ h => h) (Or.inl ⟨by rfl, ?_⟩) hHeld ?_ ?_
  rotate_left; (rintro w' ⟨s0, s1, s2⟩; go_simp; with_reducible rfl); rotate_left; (simp only [Act.put, zA, zZ, zS, i64_w, i32_w]; rfl)
  refine pure_ (i := 13) (N := some 166) (v := ?_) (a' := ?_) (zF 16 16383) rfl rfl (any_of HT_.out (by kernel_rfl)) (fun _ _ _ h => h) (Or.inl ⟨by rfl, ?_⟩) ?_ ?_
  rotate_left; (intro w'; go_simp; with_reducible rfl); rotate_left; (simp only [Act.put, zA, zZ, zS, i64_w, i32_w]; rfl)
  refine pure_ (i := 14) (N := some 167) (v := ?_) (a' := ?_) (zF 16 32767) rfl rfl (any_of HT_.out (by kernel_rfl)) (fun _ _ _ h => h) (Or.inl ⟨by rfl, ?_⟩) ?_ ?_
  rotate_left; (intro w'; go_simp; with_reducible rfl); rotate_left; (simp only [Act.put, zA, zZ, zS, i64_w, i32_w]; rfl)
  refine last_ (i := 15) (N := none) (zF 16 65535) rfl rfl (one_of HT_.out (by kernel_rfl)) (by decide) (fun K hK => ?_)
  have q6d : w6d.cell? ⟨gp, pl, none⟩ = some (.int .i64 (wrap64 0)) := H6d.out.cps HPL.out
  have qf6d := H6d.out.freep pl
  refine skip_ (w1 := ?_) (by rfl) rfl ?_ ?_
  rotate_left
  · go_simp
    with_reducible rfl
  refine hK.out _ _ ?_
  clear hK K
  clear q6d qf6d
  refine done_ (done_of HT_.out (by kernel_rfl)) ?_
  clear hHeld
  have H6 := Aside0.mk (show PV hs B w0 (w6d.setCell ⟨gp, pl, none⟩ (.int .i64 (wrap64 ((wrap64 0) + wrap64 (IntKind.u8.wrap (b - 48)))))) g gp gd n m ⟨((ps.set pl 0).set pl (wrap64 0)).set pl (wrap64 ((wrap64 0) + wrap64 (IntKind.u8.wrap (b - 48)))), da, dl, pl, cmd, st⟩ from H6d.out.set_p pl (wrap64 ((wrap64 0) + wrap64 (IntKind.u8.wrap (b - 48)))))
  clear H6d
  generalize w6d.setCell ⟨gp, pl, none⟩ (.int .i64 (wrap64 ((wrap64 0) + wrap64 (IntKind.u8.wrap (b - 48))))) = w6 at H6 ⊢
  go_wp2
  go_end0
  refine ⟨rfl, ?_⟩
  have h_ := H6.out
  simp only [set_set] at h_
  exact h_
set_option maxHeartbeats 8000000 in
set_option maxRecDepth 100000 in
theorem pa_dig_some (hs : Nat → Value) (B : Nat) (w0 w : World) (g gp gd n m : Nat) (p : PM) (h : PV hs B w0 w g gp gd n m p) (st2 b : Int) (hb0 : 0 ≤ b) (hb1 : b < 256) (hd : 48 ≤ b ∧ b ≤ 57) (hpl : p.pl < n) (hx0 : p.ps.getD p.pl 0 ≠ 2147483647) :
    Calls Tryd.prog 68 #[.pointer (some ⟨g, 0, none⟩), .int .u8 8, .int .u8 st2, .int .u8 b] w fun e w' => e = .returned (.tuple #[]) ∧ PV hs B w0 w' g gp gd n m (⟨p.ps.set p.pl (wrap64 (wrap64 (p.ps.getD p.pl 0 * 10) + wrap64 (IntKind.u8.wrap (b - 48)))), p.da, p.dl, p.pl, p.cmd, p.st⟩) := by
  obtain ⟨ps, da, dl, pl, cmd, st⟩ := p
  replace hpl : pl < n := hpl
  replace hx0 : ps.getD pl 0 ≠ 2147483647 := hx0
  obtain ⟨w1, hw1⟩ : ∃ w1, w1 = w := ⟨_, rfl⟩
  rw [← hw1]
  have H1 := Aside0.mk (show PV hs B w0 w1 g gp gd n m ⟨ps, da, dl, pl, cmd, st⟩ by rw [hw1]; exact h)
  clear hw1 h
  obtain ⟨x, hx⟩ : ∃ x, x = ps.getD pl 0 := ⟨_, rfl⟩
  have HX := Aside0.mk hx
  clear hx
  have HPL := Aside0.mk hpl
  have tn : decide ((n : Int) ≤ (pl : Int)) = false := decide_eq_false (by omega)
  have p0 : (0 : Int) ≤ (pl : Int) := by omega
  have p1 : (pl : Int) < (n : Int) := by omega
  have t48 : decide (48 ≤ b) = true := decide_eq_true hd.1
  have t57 : decide (b ≤ 57) = true := decide_eq_true hd.2
  have n58 : (b == 58) = false := by simp; omega
  have n59 : (b == 59) = false := by simp; omega
  have tx : (x == 2147483647) = false := by rw [HX.out]; simp; exact hx0
  clear hpl hx0 hd hb0 hb1
  go_enter Tryd.func68, Tryd.ntmps68
  go_wp2_with fail
  refine start_ (n := 10) (S := (fun w' => w'.cell? ⟨g, 9, none⟩ = some (.slice (some ⟨gp, 0, none⟩) n n) ∧ w'.cell? ⟨g, 12, none⟩ = some (.int .i64 (pl : Int)))) (ds := []) #[false, false, false, false, false, false, false, false, false, false] (by kernel_rfl) rfl rfl ⟨H1.out.c9, H1.out.c12⟩ (fun hHeld => ?_)
  refine with_tabW r22_tab r22_bits (fun HT_ HW_ => ?_)
  have H2d := Aside0.mk (show PV hs B w0 w1.drew g gp gd n m ⟨ps, da, dl, pl, cmd, st⟩ from H1.out.drew)
  clear H1
  generalize w1.drew = w2d at H2d hHeld ⊢
  refine pure_ (i := 0) (N := some 105) (v := ?_) (a' := ?_) (zF 10 1) rfl rfl (any_of HT_.out (by kernel_rfl)) (fun _ _ _ h => h) (Or.inl ⟨by rfl, ?_⟩) ?_ ?_
  rotate_left; (intro w'; go_simp; with_reducible rfl); rotate_left; (simp only [Act.put, zA, zZ, zS, i64_w, i32_w]; rfl)
  refine pure_ (i := 1) (N := some 106) (v := ?_) (a' := ?_) (zF 10 3) rfl rfl (any_of HT_.out (by kernel_rfl)) (fun _ _ _ h => h) (Or.inl ⟨by rfl, ?_⟩) ?_ ?_
  rotate_left; (intro w'; go_simp; with_reducible rfl); rotate_left; (simp only [Act.put, zA, zZ, zS, i64_w, i32_w]; rfl)
  refine pure_ (i := 2) (N := some 107) (v := ?_) (a' := ?_) (zF 10 7) rfl rfl (any_of HT_.out (by kernel_rfl)) (fun _ _ _ h => h) (Or.inl ⟨by rfl, ?_⟩) ?_ ?_
  rotate_left; (intro w'; go_simp; with_reducible rfl); rotate_left; (simp only [Act.put, zA, zZ, zS, i64_w, i32_w]; rfl)
  refine pure_ (i := 4) (N := some 109) (v := ?_) (a' := ?_) (zF 10 23) rfl rfl (any_of HT_.out (by kernel_rfl)) (fun _ _ _ h => h) (Or.inl ⟨by rfl, ?_⟩) ?_ ?_
  rotate_left; (intro w'; go_simp; with_reducible rfl); rotate_left; (simp only [Act.put, zA, zZ, zS, i64_w, i32_w]; rfl)
  refine pure_ (i := 5) (N := some 110) (v := ?_) (a' := ?_) (zF 10 55) rfl rfl (any_of HT_.out (by kernel_rfl)) (fun _ _ _ h => h) (Or.inl ⟨by rfl, ?_⟩) ?_ ?_
  rotate_left; (intro w'; go_simp; with_reducible rfl); rotate_left; (simp only [Act.put, zA, zZ, zS, i64_w, i32_w]; rfl)
  refine pure_ (i := 6) (N := some 111) (v := ?_) (a' := ?_) (zF 10 119) rfl rfl (any_of HT_.out (by kernel_rfl)) (fun _ _ _ h => h) (Or.inl ⟨by rfl, ?_⟩) ?_ ?_
  rotate_left; (intro w'; go_simp; with_reducible rfl); rotate_left; (simp only [Act.put, zA, zZ, zS, i64_w, i32_w]; rfl)
  refine take_ (i := 3) (N := some 108) (v := ?_) (a' := ?_) (zF 10 127) rfl rfl (take_ofW HT_.out HW_.out (by kernel_rfl)) (fun _ _ _ h => h) (Or.inl ⟨by rfl, ?_⟩) hHeld ?_ ?_
  rotate_left; (rintro w' ⟨s0, s1⟩; go_simp; with_reducible rfl); rotate_left; (simp only [Act.put, zA, zZ, zS, i64_w, i32_w]; rfl)
  refine take_ (i := 7) (N := some 112) (v := ?_) (a' := ?_) (zF 10 255) rfl rfl (take_ofW HT_.out HW_.out (by kernel_rfl)) (fun _ _ _ h => h) (Or.inl ⟨by rfl, ?_⟩) hHeld ?_ ?_
  rotate_left; (rintro w' ⟨s0, s1⟩; go_simp; with_reducible rfl); rotate_left; (simp only [Act.put, zA, zZ, zS, i64_w, i32_w]; rfl)
  refine pure_ (i := 8) (N := some 113) (v := ?_) (a' := ?_) (zF 10 511) rfl rfl (any_of HT_.out (by kernel_rfl)) (fun _ _ _ h => h) (Or.inl ⟨by rfl, ?_⟩) ?_ ?_
  rotate_left; (intro w'; go_simp; with_reducible rfl); rotate_left; (simp only [Act.put, zA, zZ, zS, i64_w, i32_w]; rfl)
  refine pure_ (i := 9) (N := some 114) (v := ?_) (a' := ?_) (zF 10 1023) rfl rfl (any_of HT_.out (by kernel_rfl)) (fun _ _ _ h => h) (Or.inl ⟨by rfl, ?_⟩) ?_ ?_
  rotate_left; (intro w'; go_simp; with_reducible rfl); rotate_left; (simp only [Act.put, zA, zZ, zS, i64_w, i32_w]; rfl)
  refine done_ (done_of HT_.out (by kernel_rfl)) ?_
  clear hHeld
  go_wp2_with fail
  refine start_ (n := 11) (S := (fun w' => w'.cell? ⟨g, 9, none⟩ = some (.slice (some ⟨gp, 0, none⟩) n n) ∧ w'.cell? ⟨g, 12, none⟩ = some (.int .i64 (pl : Int)) ∧ w'.cell? ⟨gp, pl, none⟩ = some (.int .i64 x))) (ds := []) #[false, false, false, false, false, false, false, false, false, false, false] (by kernel_rfl) rfl rfl ⟨H2d.out.c9, H2d.out.c12, H2d.out.cpx HPL.out HX.out⟩ (fun hHeld => ?_)
  refine with_tabW r24_tab r24_bits (fun HT_ HW_ => ?_)
  have H3d := Aside0.mk (show PV hs B w0 w2d.drew g gp gd n m ⟨ps, da, dl, pl, cmd, st⟩ from H2d.out.drew)
  clear H2d
  generalize w2d.drew = w3d at H3d hHeld ⊢
  refine pure_ (i := 0) (N := some 121) (v := ?_) (a' := ?_) (zF 11 1) rfl rfl (any_of HT_.out (by kernel_rfl)) (fun _ _ _ h => h) (Or.inl ⟨by rfl, ?_⟩) ?_ ?_
  rotate_left; (intro w'; go_simp; with_reducible rfl); rotate_left; (simp only [Act.put, zA, zZ, zS, i64_w, i32_w]; rfl)
  refine pure_ (i := 1) (N := some 122) (v := ?_) (a' := ?_) (zF 11 3) rfl rfl (any_of HT_.out (by kernel_rfl)) (fun _ _ _ h => h) (Or.inl ⟨by rfl, ?_⟩) ?_ ?_
  rotate_left; (intro w'; go_simp; with_reducible rfl); rotate_left; (simp only [Act.put, zA, zZ, zS, i64_w, i32_w]; rfl)
  refine pure_ (i := 2) (N := some 123) (v := ?_) (a' := ?_) (zF 11 7) rfl rfl (any_of HT_.out (by kernel_rfl)) (fun _ _ _ h => h) (Or.inl ⟨by rfl, ?_⟩) ?_ ?_
  rotate_left; (intro w'; go_simp; with_reducible rfl); rotate_left; (simp only [Act.put, zA, zZ, zS, i64_w, i32_w]; rfl)
  refine pure_ (i := 4) (N := some 125) (v := ?_) (a' := ?_) (zF 11 23) rfl rfl (any_of HT_.out (by kernel_rfl)) (fun _ _ _ h => h) (Or.inl ⟨by rfl, ?_⟩) ?_ ?_
  rotate_left; (intro w'; go_simp; with_reducible rfl); rotate_left; (simp only [Act.put, zA, zZ, zS, i64_w, i32_w]; rfl)
  refine pure_ (i := 5) (N := some 126) (v := ?_) (a' := ?_) (zF 11 55) rfl rfl (any_of HT_.out (by kernel_rfl)) (fun _ _ _ h => h) (Or.inl ⟨by rfl, ?_⟩) ?_ ?_
  rotate_left; (intro w'; go_simp; with_reducible rfl); rotate_left; (simp only [Act.put, zA, zZ, zS, i64_w, i32_w]; rfl)
  refine pure_ (i := 6) (N := some 127) (v := ?_) (a' := ?_) (zF 11 119) rfl rfl (any_of HT_.out (by kernel_rfl)) (fun _ _ _ h => h) (Or.inl ⟨by rfl, ?_⟩) ?_ ?_
  rotate_left; (intro w'; go_simp; with_reducible rfl); rotate_left; (simp only [Act.put, zA, zZ, zS, i64_w, i32_w]; rfl)
  refine take_ (i := 3) (N := some 124) (v := ?_) (a' := ?_) (zF 11 127) rfl rfl (take_ofW HT_.out HW_.out (by kernel_rfl)) (fun _ _ _ h => h) (Or.inl ⟨by rfl, ?_⟩) hHeld ?_ ?_
  rotate_left; (rintro w' ⟨s0, s1, s2⟩; go_simp; with_reducible rfl); rotate_left; (simp only [Act.put, zA, zZ, zS, i64_w, i32_w]; rfl)
  refine take_ (i := 7) (N := some 128) (v := ?_) (a' := ?_) (zF 11 255) rfl rfl (take_ofW HT_.out HW_.out (by kernel_rfl)) (fun _ _ _ h => h) (Or.inl ⟨by rfl, ?_⟩) hHeld ?_ ?_
  rotate_left; (rintro w' ⟨s0, s1, s2⟩; go_simp; with_reducible rfl); rotate_left; (simp only [Act.put, zA, zZ, zS, i64_w, i32_w]; rfl)
  refine pure_ (i := 8) (N := some 129) (v := ?_) (a' := ?_) (zF 11 511) rfl rfl (any_of HT_.out (by kernel_rfl)) (fun _ _ _ h => h) (Or.inl ⟨by rfl, ?_⟩) ?_ ?_
  rotate_left; (intro w'; go_simp; with_reducible rfl); rotate_left; (simp only [Act.put, zA, zZ, zS, i64_w, i32_w]; rfl)
  refine take_ (i := 9) (N := some 130) (v := ?_) (a' := ?_) (zF 11 1023) rfl rfl (take_ofW HT_.out HW_.out (by kernel_rfl)) (fun _ _ _ h => h) (Or.inl ⟨by rfl, ?_⟩) hHeld ?_ ?_
  rotate_left; (rintro w' ⟨s0, s1, s2⟩; go_simp; with_reducible rfl); rotate_left; (simp only [Act.put, zA, zZ, zS, i64_w, i32_w]; rfl)
  refine pure_ (i := 10) (N := some 131) (v := ?_) (a' := ?_) (zF 11 2047) rfl rfl (any_of HT_.out (by kernel_rfl)) (fun _ _ _ h => h) (Or.inl ⟨by rfl, ?_⟩) ?_ ?_
  rotate_left; (intro w'; go_simp; with_reducible rfl); rotate_left; (simp only [Act.put, zA, zZ, zS, i64_w, i32_w]; rfl)
  refine done_ (done_of HT_.out (by kernel_rfl)) ?_
  clear hHeld
  go_wp2_with fail
  refine start_ (n := 13) (S := (fun w' => w'.cell? ⟨g, 9, none⟩ = some (.slice (some ⟨gp, 0, none⟩) n n) ∧ w'.cell? ⟨g, 12, none⟩ = some (.int .i64 (pl : Int)) ∧ w'.cell? ⟨gp, pl, none⟩ = some (.int .i64 x))) (ds := [12]) #[false, false, false, false, false, false, false, false, false, false, false, false, false] (by kernel_rfl) rfl rfl ⟨H3d.out.c9, H3d.out.c12, H3d.out.cpx HPL.out HX.out⟩ (fun hHeld => ?_)
  refine with_tabW r26_tab r26_bits (fun HT_ HW_ => ?_)
  have H5d := Aside0.mk (show PV hs B w0 w3d.drew g gp gd n m ⟨ps, da, dl, pl, cmd, st⟩ from H3d.out.drew)
  clear H3d
  generalize w3d.drew = w5d at H5d hHeld ⊢
  refine pure_ (i := 0) (N := some 141) (v := ?_) (a' := ?_) (zF 13 1) rfl rfl (any_of HT_.out (by kernel_rfl)) (fun _ _ _ h => h) (Or.inl ⟨by rfl, ?_⟩) ?_ ?_
  rotate_left; (intro w'; go_simp; with_reducible rfl); rotate_left; (simp only [Act.put, zA, zZ, zS, i64_w, i32_w]; rfl)
  refine pure_ (i := 1) (N := some 142) (v := ?_) (a' := ?_) (zF 13 3) rfl rfl (any_of HT_.out (by kernel_rfl)) (fun _ _ _ h => h) (Or.inl ⟨by rfl, ?_⟩) ?_ ?_
  rotate_left; (intro w'; go_simp; with_reducible rfl); rotate_left; (simp only [Act.put, zA, zZ, zS, i64_w, i32_w]; rfl)
  refine pure_ (i := 2) (N := some 143) (v := ?_) (a' := ?_) (zF 13 7) rfl rfl (any_of HT_.out (by kernel_rfl)) (fun _ _ _ h => h) (Or.inl ⟨by rfl, ?_⟩) ?_ ?_
  rotate_left; (intro w'; go_simp; with_reducible rfl); rotate_left; (simp only [Act.put, zA, zZ, zS, i64_w, i32_w]; rfl)
  refine pure_ (i := 4) (N := some 145) (v := ?_) (a' := ?_) (zF 13 23) rfl rfl (any_of HT_.out (by kernel_rfl)) (fun _ _ _ h => h) (Or.inl ⟨by rfl, ?_⟩) ?_ ?_
  rotate_left; (intro w'; go_simp; with_reducible rfl); rotate_left; (simp only [Act.put, zA, zZ, zS, i64_w, i32_w]; rfl)
  refine pure_ (i := 5) (N := some 146) (v := ?_) (a' := ?_) (zF 13 55) rfl rfl (any_of HT_.out (by kernel_rfl)) (fun _ _ _ h => h) (Or.inl ⟨by rfl, ?_⟩) ?_ ?_
  rotate_left; (intro w'; go_simp; with_reducible rfl); rotate_left; (simp only [Act.put, zA, zZ, zS, i64_w, i32_w]; rfl)
  refine pure_ (i := 6) (N := some 147) (v := ?_) (a' := ?_) (zF 13 119) rfl rfl (any_of HT_.out (by kernel_rfl)) (fun _ _ _ h => h) (Or.inl ⟨by rfl, ?_⟩) ?_ ?_
  rotate_left; (intro w'; go_simp; with_reducible rfl); rotate_left; (simp only [Act.put, zA, zZ, zS, i64_w, i32_w]; rfl)
  refine take_ (i := 3) (N := some 144) (v := ?_) (a' := ?_) (zF 13 127) rfl rfl (take_ofW HT_.out HW_.out (by kernel_rfl)) (fun _ _ _ h => h) (Or.inl ⟨by rfl, ?_⟩) hHeld ?_ ?_
  rotate_left; (rintro w' ⟨s0, s1, s2⟩; go_simp; with_reducible rfl); rotate_left; (simp only [Act.put, zA, zZ, zS, i64_w, i32_w]; rfl)
  refine take_ (i := 7) (N := some 148) (v := ?_) (a' := ?_) (zF 13 255) rfl rfl (take_ofW HT_.out HW_.out (by kernel_rfl)) (fun _ _ _ h => h) (Or.inl ⟨by rfl, ?_⟩) hHeld ?_ ?_
  rotate_left; (rintro w' ⟨s0, s1, s2⟩; go_simp; with_reducible rfl); rotate_left; (simp only [Act.put, zA, zZ, zS, i64_w, i32_w]; rfl)
  refine pure_ (i := 8) (N := some 149) (v := ?_) (a' := ?_) (zF 13 511) rfl rfl (any_of HT_.out (by kernel_rfl)) (fun _ _ _ h => h) (Or.inl ⟨by rfl, ?_⟩) ?_ ?_
  rotate_left; (intro w'; go_simp; with_reducible rfl); rotate_left; (simp only [Act.put, zA, zZ, zS, i64_w, i32_w]; rfl)
  refine take_ (i := 9) (N := some 150) (v := ?_) (a' := ?_) (zF 13 1023) rfl rfl (take_ofW HT_.out HW_.out (by kernel_rfl)) (fun _ _ _ h => h) (Or.inl ⟨by rfl, ?_⟩) hHeld ?_ ?_
  rotate_left; (rintro w' ⟨s0, s1, s2⟩; go_simp; with_reducible rfl); rotate_left; (simp only [Act.put, zA, zZ, zS, i64_w, i32_w]; rfl)
  refine pure_ (i := 10) (N := some 151) (v := ?_) (a' := ?_) (zF 13 2047) rfl rfl (any_of HT_.out (by kernel_rfl)) (fun _ _ _ h => h) (Or.inl ⟨by rfl, ?_⟩) ?_ ?_
  rotate_left; (intro w'; go_simp; with_reducible rfl); rotate_left; (simp only [Act.put, zA, zZ, zS, i64_w, i32_w]; rfl)
  refine pure_ (i := 11) (N := some 152) (v := ?_) (a' := ?_) (zF 13 4095) rfl rfl (any_of HT_.out (by kernel_rfl)) (fun _ _ _ h => h) (Or.inl ⟨by rfl, ?_⟩) ?_ ?_
  rotate_left; (intro w'; go_simp; with_reducible rfl); rotate_left; (simp only [Act.put, zA, zZ, zS, i64_w, i32_w]; rfl)
  refine last_ (i := 12) (N := none) (zF 13 8191) rfl rfl (one_of HT_.out (by kernel_rfl)) (by decide) (fun K hK => ?_)
  have q5d : w5d.cell? ⟨gp, pl, none⟩ = some (.int .i64 x) := H5d.out.cpx HPL.out HX.out
  have qf5d := H5d.out.freep pl
  refine skip_ (w1 := ?_) (by rfl) rfl ?_ ?_
  rotate_left
  · go_simp
    with_reducible rfl
  refine hK.out _ _ ?_
  clear hK K
  clear q5d qf5d
  refine done_ (done_of HT_.out (by kernel_rfl)) ?_
  clear hHeld
  have H5 := Aside0.mk (show PV hs B w0 (w5d.setCell ⟨gp, pl, none⟩ (.int .i64 (wrap64 (x * 10)))) g gp gd n m ⟨ps.set pl (wrap64 (x * 10)), da, dl, pl, cmd, st⟩ from H5d.out.set_p pl (wrap64 (x * 10)))
  clear H5d
  generalize w5d.setCell ⟨gp, pl, none⟩ (.int .i64 (wrap64 (x * 10))) = w5 at H5 ⊢
  go_wp2_with fail
  refine start_ (n := 16) (S := (fun w' => w'.cell? ⟨g, 9, none⟩ = some (.slice (some ⟨gp, 0, none⟩) n n) ∧ w'.cell? ⟨g, 12, none⟩ = some (.int .i64 (pl : Int)) ∧ w'.cell? ⟨gp, pl, none⟩ = some (.int .i64 (wrap64 (x * 10))))) (ds := [15]) #[false, false, false, false, false, false, false, false, false, false, false, false, false, false, false, false] (by kernel_rfl) rfl rfl ⟨H5.out.c9, H5.out.c12, H5.out.cps HPL.out⟩ (fun hHeld => ?_)
  refine with_tabW r27_tab r27_bits (fun HT_ HW_ => ?_)
  have H6d := Aside0.mk (show PV hs B w0 w5.drew g gp gd n m ⟨ps.set pl (wrap64 (x * 10)), da, dl, pl, cmd, st⟩ from H5.out.drew)
  clear H5
  generalize w5.drew = w6d at H6d hHeld ⊢
  refine pure_ (i := 0) (N := some 153) (v := ?_) (a' := ?_) (zF 16 1) rfl rfl (any_of HT_.out (by kernel_rfl)) (fun _ _ _ h => h) (Or.inl ⟨by rfl, ?_⟩) ?_ ?_
  rotate_left; (intro w'; go_simp; with_reducible rfl); rotate_left; (simp only [Act.put, zA, zZ, zS, i64_w, i32_w]; rfl)
  refine pure_ (i := 1) (N := some 154) (v := ?_) (a' := ?_) (zF 16 3) rfl rfl (any_of HT_.out (by kernel_rfl)) (fun _ _ _ h => h) (Or.inl ⟨by rfl, ?_⟩) ?_ ?_
  rotate_left; (intro w'; go_simp; with_reducible rfl); rotate_left; (simp only [Act.put, zA, zZ, zS, i64_w, i32_w]; rfl)
  refine pure_ (i := 2) (N := some 155) (v := ?_) (a' := ?_) (zF 16 7) rfl rfl (any_of HT_.out (by kernel_rfl)) (fun _ _ _ h => h) (Or.inl ⟨by rfl, ?_⟩) ?_ ?_
  rotate_left; (intro w'; go_simp; with_reducible rfl); rotate_left; (simp only [Act.put, zA, zZ, zS, i64_w, i32_w]; rfl)
  refine pure_ (i := 4) (N := some 157) (v := ?_) (a' := ?_) (zF 16 23) rfl rfl (any_of HT_.out (by kernel_rfl)) (fun _ _ _ h => h) (Or.inl ⟨by rfl, ?_⟩) ?_ ?_
  rotate_left; (intro w'; go_simp; with_reducible rfl); rotate_left; (simp only [Act.put, zA, zZ, zS, i64_w, i32_w]; rfl)
  refine pure_ (i := 5) (N := some 158) (v := ?_) (a' := ?_) (zF 16 55) rfl rfl (any_of HT_.out (by kernel_rfl)) (fun _ _ _ h => h) (Or.inl ⟨by rfl, ?_⟩) ?_ ?_
  rotate_left; (intro w'; go_simp; with_reducible rfl); rotate_left; (simp only [Act.put, zA, zZ, zS, i64_w, i32_w]; rfl)
  refine pure_ (i := 6) (N := some 159) (v := ?_) (a' := ?_) (zF 16 119) rfl rfl (any_of HT_.out (by kernel_rfl)) (fun _ _ _ h => h) (Or.inl ⟨by rfl, ?_⟩) ?_ ?_
  rotate_left; (intro w'; go_simp; with_reducible rfl); rotate_left; (simp only [Act.put, zA, zZ, zS, i64_w, i32_w]; rfl)
  refine pure_ (i := 10) (N := some 163) (v := ?_) (a' := ?_) (zF 16 1143) rfl rfl (any_of HT_.out (by kernel_rfl)) (fun _ _ _ h => h) (Or.inl ⟨by rfl, ?_⟩) ?_ ?_
  rotate_left; (intro w'; go_simp; with_reducible rfl); rotate_left; (simp only [Act.put, zA, zZ, zS, i64_w, i32_w]; rfl)
  refine pure_ (i := 11) (N := some 164) (v := ?_) (a' := ?_) (zF 16 3191) rfl rfl (any_of HT_.out (by kernel_rfl)) (fun _ _ _ h => h) (Or.inl ⟨by rfl, ?_⟩) ?_ ?_
  rotate_left; (intro w'; go_simp; with_reducible rfl); rotate_left; (simp only [Act.put, zA, zZ, zS, i64_w, i32_w]; rfl)
  refine pure_ (i := 12) (N := some 165) (v := ?_) (a' := ?_) (zF 16 7287) rfl rfl (any_of HT_.out (by kernel_rfl)) (fun _ _ _ h => h) (Or.inl ⟨by rfl, ?_⟩) ?_ ?_
  rotate_left; (intro w'; go_simp; with_reducible rfl); rotate_left; (simp only [Act.put, zA, zZ, zS, i64_w, i32_w]; rfl)
  refine take_ (i := 3) (N := some 156) (v := ?_) (a' := ?_) (zF 16 7295) rfl rfl (take_ofW HT_.out HW_.out (by kernel_rfl)) (fun _ _ _ h => h) (Or.inl ⟨by rfl, ?_⟩) hHeld ?_ ?_
  rotate_left; (rintro w' ⟨s0, s1, s2⟩; go_simp; with_reducible rfl); rotate_left; (simp only [Act.put, zA, zZ, zS, i64_w, i32_w]; rfl)
  refine take_ (i := 7) (N := some 160) (v := ?_) (a' := ?_) (zF 16 7423) rfl rfl (take_ofW HT_.out HW_.out (by kernel_rfl)) (fun _ _ _ h => h) (Or.inl ⟨by rfl, ?_⟩) hHeld ?_ ?_
  rotate_left; (rintro w' ⟨s0, s1, s2⟩; go_simp; with_reducible rfl); rotate_left; (simp only [Act.put, zA, zZ, zS, i64_w, i32_w]; rfl)
  refine pure_ (i := 8) (N := some 161) (v := ?_) (a' := ?_) (zF 16 7679) rfl rfl (any_of HT_.out (by kernel_rfl)) (fun _ _ _ h => h) (Or.inl ⟨by rfl, ?_⟩) ?_ ?_
  rotate_left; (intro w'; go_simp; with_reducible rfl); rotate_left; (simp only [Act.put, zA, zZ, zS, i64_w, i32_w]; rfl)
  refine take_ (i := 9) (N := some 162) (v := ?_) (a' := ?_) (zF 16 8191) rfl rfl (take_ofW HT_.out HW_.out (by kernel_rfl)) (fun _ _ _ h => h) (Or.inl ⟨by rfl, ?_⟩) hHeld ?_ ?_
  rotate_left; (rintro w' ⟨s0, s1, s2⟩; go_simp; with_reducible rfl); rotate_left; (simp only [Act.put, zA, zZ, zS, i64_w, i32_w]; rfl)
  refine pure_ (i := 13) (N := some 166) (v := ?_) (a' := ?_) (zF 16 16383) rfl rfl (any_of HT_.out (by kernel_rfl)) (fun _ _ _ h => h) (Or.inl ⟨by rfl, ?_⟩) ?_ ?_
  rotate_left; (intro w'; go_simp; with_reducible rfl); rotate_left; (simp only [Act.put, zA, zZ, zS, i64_w, i32_w]; rfl)
  refine pure_ (i := 14) (N := some 167) (v := ?_) (a' := ?_) (zF 16 32767) rfl rfl (any_of HT_.out (by kernel_rfl)) (fun _ _ _ h => h) (Or.inl ⟨by rfl, ?_⟩) ?_ ?_
  rotate_left; (intro w'; go_simp; with_reducible rfl); rotate_left; (simp only [Act.put, zA, zZ, zS, i64_w, i32_w]; rfl)
  refine last_ (i := 15) (N := none) (zF 16 65535) rfl rfl (one_of HT_.out (by kernel_rfl)) (by decide) (fun K hK => ?_)
  have q6d : w6d.cell? ⟨gp, pl, none⟩ = some (.int .i64 (wrap64 (x * 10))) := H6d.out.cps HPL.out
  have qf6d := H6d.out.freep pl
  refine skip_ (w1 := ?_) (by rfl) rfl ?_ ?_
  rotate_left
  · go_simp
    with_reducible rfl
  refine hK.out _ _ ?_
  clear hK K
  clear q6d qf6d
  refine done_ (done_of HT_.out (by kernel_rfl)) ?_
  clear hHeld
  have H6 := Aside0.mk (show PV hs B w0 (w6d.setCell ⟨gp, pl, none⟩ (.int .i64 (wrap64 ((wrap64 (x * 10)) + wrap64 (IntKind.u8.wrap (b - 48)))))) g gp gd n m ⟨(ps.set pl (wrap64 (x * 10))).set pl (wrap64 ((wrap64 (x * 10)) + wrap64 (IntKind.u8.wrap (b - 48)))), da, dl, pl, cmd, st⟩ from H6d.out.set_p pl (wrap64 ((wrap64 (x * 10)) + wrap64 (IntKind.u8.wrap (b - 48)))))
  clear H6d
  generalize w6d.setCell ⟨gp, pl, none⟩ (.int .i64 (wrap64 ((wrap64 (x * 10)) + wrap64 (IntKind.u8.wrap (b - 48))))) = w6 at H6 ⊢
  go_wp2
  go_end0
  refine ⟨rfl, ?_⟩
  have h_ := H6.out
  simp only [set_set] at h_
  rw [HX.out] at h_
  exact h_
end Go.Proofs.YtmpmfdghdaofhaaDoor.Pm

namespace Go.Proofs.YtmpmfdghdaofhaaDoor.Pm
set_option linter.unusedVariables false
set_option linter.unusedSimpArgs false
open Go Go.RowKit Go.Proofs.YtmpmfdghdaofhaaDoorW.PrintWords Go.Proofs.YtmpmfdghdaofhaaDoorW.PrintLast Go.Proofs.YtmpmfdghdaofhaaDoorW.PrintMore
def s22T : Bool × List (List Nat × List Nat) := (true, [([], []), ([0], [0]), ([1], [1]), ([2], [2]), ([], []), ([4], [4]), ([5], [5]), ([6], [6]), ([7], [7]), ([3, 8], [3, 8])])
def s22B : List Nat := [0, 1, 3, 7, 0, 16, 48, 112, 240, 511]
theorem s22_tab : rtab .any (opsOf Tryd.f68 22) = s22T := by kernel_rfl
theorem s22_bits : waitsOk s22T.2 s22B = true := by kernel_rfl
def s29T : Bool × List (List Nat × List Nat) := (true, [([], []), ([0], [0]), ([1], [1]), ([2], [2]), ([], []), ([4], [4]), ([5], [5]), ([6], [6]), ([3, 7], [3, 7]), ([8], [8]), ([9], [9]), ([3, 7, 0, 1, 2, 3, 4, 5, 6, 7, 8, 9, 10], [3, 7]), ([11, 10, 0, 1, 2, 3, 4, 5, 6, 7, 8, 9, 10], [10, 11])])
def s29B : List Nat := [0, 1, 3, 7, 0, 16, 48, 112, 255, 511, 1023, 2047, 4095]
theorem s29_tab : rtab .any (opsOf Tryd.f68 29) = s29T := by kernel_rfl
theorem s29_bits : waitsOk s29T.2 s29B = true := by kernel_rfl
def s32T : Bool × List (List Nat × List Nat) := (true, [([], []), ([0], [0]), ([1], [1]), ([2], [2]), ([], []), ([4], [4]), ([5], [5]), ([6], [6]), ([7], [7]), ([3, 8], [3, 8])])
def s32B : List Nat := [0, 1, 3, 7, 0, 16, 48, 112, 240, 511]
theorem s32_tab : rtab .any (opsOf Tryd.f68 32) = s32T := by kernel_rfl
theorem s32_bits : waitsOk s32T.2 s32B = true := by kernel_rfl
def s33T : Bool × List (List Nat × List Nat) := (true, [([], []), ([0], [0]), ([1], [1]), ([2], [2]), ([], []), ([4], [4]), ([5], [5]), ([6], [6]), ([3, 7, 0, 1, 2, 3, 4, 5, 6, 7], [3, 7]), ([8, 0, 1, 2, 3, 4, 5, 6, 7], [8])])
def s33B : List Nat := [0, 1, 3, 7, 0, 16, 48, 112, 255, 511]
theorem s33_tab : rtab .any (opsOf Tryd.f68 33) = s33T := by kernel_rfl
theorem s33_bits : waitsOk s33T.2 s33B = true := by kernel_rfl
set_option maxHeartbeats 8000000 in
set_option maxRecDepth 100000 in
theorem pa_colon_more (hs : Nat → Value) (B : Nat) (w0 w : World) (g gp gd n m : Nat) (p : PM) (h : PV hs B w0 w g gp gd n m p) (st2 : Int) (hpl : p.pl < n) (hmo : p.pl + 1 < n) (hbig : n ≤ 1000000) :
    Calls Tryd.prog 68 #[.pointer (some ⟨g, 0, none⟩), .int .u8 8, .int .u8 st2, .int .u8 58] w fun e w' => e = .returned (.tuple #[]) ∧ PV hs B w0 w' g gp gd n m (⟨(p.ps.set p.pl (Go.bits .or .i64 (p.ps.getD p.pl 0) (-2147483648))).set (p.pl + 1) 2147483647, p.da, p.dl, p.pl + 1, p.cmd, p.st⟩) := by
  obtain ⟨ps, da, dl, pl, cmd, st⟩ := p
  replace hpl : pl < n := hpl
  replace hmo : pl + 1 < n := hmo
  replace hbig : n ≤ 1000000 := hbig
  obtain ⟨w1, hw1⟩ : ∃ w1, w1 = w := ⟨_, rfl⟩
  rw [← hw1]
  have H1 := Aside0.mk (show PV hs B w0 w1 g gp gd n m ⟨ps, da, dl, pl, cmd, st⟩ by rw [hw1]; exact h)
  clear hw1 h
  obtain ⟨x, hx⟩ : ∃ x, x = ps.getD pl 0 := ⟨_, rfl⟩
  have HX := Aside0.mk hx
  clear hx
  have HPL := Aside0.mk hpl
  have tn : decide ((n : Int) ≤ (pl : Int)) = false := decide_eq_false (by omega)
  have p0 : (0 : Int) ≤ (pl : Int) := by omega
  have p1 : (pl : Int) < (n : Int) := by omega
  obtain ⟨k2, hk2⟩ : ∃ k2, k2 = pl + 1 := ⟨_, rfl⟩
  have HK2 := Aside0.mk hk2
  have hwr : wrap64 ((pl : Int) + 1) = (k2 : Int) := by have := hbig; unfold wrap64; omega
  have HM := Aside0.mk (show k2 < n by omega)
  have tm : decide ((k2 : Int) < (n : Int)) = true := decide_eq_true (by omega)
  have r0 : (0 : Int) ≤ (k2 : Int) := by omega
  have r1 : (k2 : Int) < (n : Int) := by omega
  clear hpl hmo hbig hk2
  go_enter Tryd.func68, Tryd.ntmps68
  go_wp2_with fail
  refine start_ (n := 10) (S := (fun w' => w'.cell? ⟨g, 9, none⟩ = some (.slice (some ⟨gp, 0, none⟩) n n) ∧ w'.cell? ⟨g, 12, none⟩ = some (.int .i64 (pl : Int)))) (ds := []) #[false, false, false, false, false, false, false, false, false, false] (by kernel_rfl) rfl rfl ⟨H1.out.c9, H1.out.c12⟩ (fun hHeld => ?_)
  refine with_tabW s22_tab s22_bits (fun HT_ HW_ => ?_)
  have H2d := Aside0.mk (show PV hs B w0 w1.drew g gp gd n m ⟨ps, da, dl, pl, cmd, st⟩ from H1.out.drew)
  clear H1
  generalize w1.drew = w2d at H2d hHeld ⊢
  refine pure_ (i := 0) (N := some 105) (v := ?_) (a' := ?_) (zF 10 1) rfl rfl (any_of HT_.out (by kernel_rfl)) (fun _ _ _ h => h) (Or.inl ⟨by rfl, ?_⟩) ?_ ?_
  rotate_left; (intro w'; go_simp; with_reducible rfl); rotate_left; (simp only [Act.put, zA, zZ, zS, i64_w, i32_w]; rfl)
  refine pure_ (i := 1) (N := some 106) (v := ?_) (a' := ?_) (zF 10 3) rfl rfl (any_of HT_.out (by kernel_rfl)) (fun _ _ _ h => h) (Or.inl ⟨by rfl, ?_⟩) ?_ ?_
  rotate_left; (intro w'; go_simp; with_reducible rfl); rotate_left; (simp only [Act.put, zA, zZ, zS, i64_w, i32_w]; rfl)
  refine pure_ (i := 2) (N := some 107) (v := ?_) (a' := ?_) (zF 10 7) rfl rfl (any_of HT_.out (by kernel_rfl)) (fun _ _ _ h => h) (Or.inl ⟨by rfl, ?_⟩) ?_ ?_
  rotate_left; (intro w'; go_simp; with_reducible rfl); rotate_left; (simp only [Act.put, zA, zZ, zS, i64_w, i32_w]; rfl)
  refine pure_ (i := 4) (N := some 109) (v := ?_) (a' := ?_) (zF 10 23) rfl rfl (any_of HT_.out (by kernel_rfl)) (fun _ _ _ h => h) (Or.inl ⟨by rfl, ?_⟩) ?_ ?_
  rotate_left; (intro w'; go_simp; with_reducible rfl); rotate_left; (simp only [Act.put, zA, zZ, zS, i64_w, i32_w]; rfl)
  refine pure_ (i := 5) (N := some 110) (v := ?_) (a' := ?_) (zF 10 55) rfl rfl (any_of HT_.out (by kernel_rfl)) (fun _ _ _ h => h) (Or.inl ⟨by rfl, ?_⟩) ?_ ?_
  rotate_left; (intro w'; go_simp; with_reducible rfl); rotate_left; (simp only [Act.put, zA, zZ, zS, i64_w, i32_w]; rfl)
  refine pure_ (i := 6) (N := some 111) (v := ?_) (a' := ?_) (zF 10 119) rfl rfl (any_of HT_.out (by kernel_rfl)) (fun _ _ _ h => h) (Or.inl ⟨by rfl, ?_⟩) ?_ ?_
  rotate_left; (intro w'; go_simp; with_reducible rfl); rotate_left; (simp only [Act.put, zA, zZ, zS, i64_w, i32_w]; rfl)
  refine take_ (i := 3) (N := some 108) (v := ?_) (a' := ?_) (zF 10 127) rfl rfl (take_ofW HT_.out HW_.out (by kernel_rfl)) (fun _ _ _ h => h) (Or.inl ⟨by rfl, ?_⟩) hHeld ?_ ?_
  rotate_left; (rintro w' ⟨s0, s1⟩; go_simp; with_reducible rfl); rotate_left; (simp only [Act.put, zA, zZ, zS, i64_w, i32_w]; rfl)
  refine take_ (i := 7) (N := some 112) (v := ?_) (a' := ?_) (zF 10 255) rfl rfl (take_ofW HT_.out HW_.out (by kernel_rfl)) (fun _ _ _ h => h) (Or.inl ⟨by rfl, ?_⟩) hHeld ?_ ?_
  rotate_left; (rintro w' ⟨s0, s1⟩; go_simp; with_reducible rfl); rotate_left; (simp only [Act.put, zA, zZ, zS, i64_w, i32_w]; rfl)
  refine pure_ (i := 8) (N := some 113) (v := ?_) (a' := ?_) (zF 10 511) rfl rfl (any_of HT_.out (by kernel_rfl)) (fun _ _ _ h => h) (Or.inl ⟨by rfl, ?_⟩) ?_ ?_
  rotate_left; (intro w'; go_simp; with_reducible rfl); rotate_left; (simp only [Act.put, zA, zZ, zS, i64_w, i32_w]; rfl)
  refine pure_ (i := 9) (N := some 114) (v := ?_) (a' := ?_) (zF 10 1023) rfl rfl (any_of HT_.out (by kernel_rfl)) (fun _ _ _ h => h) (Or.inl ⟨by rfl, ?_⟩) ?_ ?_
  rotate_left; (intro w'; go_simp; with_reducible rfl); rotate_left; (simp only [Act.put, zA, zZ, zS, i64_w, i32_w]; rfl)
  refine done_ (done_of HT_.out (by kernel_rfl)) ?_
  clear hHeld
  go_wp2_with fail
  refine start_ (n := 13) (S := (fun w' => w'.cell? ⟨g, 9, none⟩ = some (.slice (some ⟨gp, 0, none⟩) n n) ∧ w'.cell? ⟨g, 12, none⟩ = some (.int .i64 (pl : Int)) ∧ w'.cell? ⟨gp, pl, none⟩ = some (.int .i64 x))) (ds := [12]) #[false, false, false, false, false, false, false, false, false, false, false, false, false] (by kernel_rfl) rfl rfl ⟨H2d.out.c9, H2d.out.c12, H2d.out.cpx HPL.out HX.out⟩ (fun hHeld => ?_)
  refine with_tabW s29_tab s29_bits (fun HT_ HW_ => ?_)
  have H3d := Aside0.mk (show PV hs B w0 w2d.drew g gp gd n m ⟨ps, da, dl, pl, cmd, st⟩ from H2d.out.drew)
  clear H2d
  generalize w2d.drew = w3d at H3d hHeld ⊢
  refine pure_ (i := 0) (N := some 170) (v := ?_) (a' := ?_) (zF 13 1) rfl rfl (any_of HT_.out (by kernel_rfl)) (fun _ _ _ h => h) (Or.inl ⟨by rfl, ?_⟩) ?_ ?_
  rotate_left; (intro w'; go_simp; with_reducible rfl); rotate_left; (simp only [Act.put, zA, zZ, zS, i64_w, i32_w]; rfl)
  refine pure_ (i := 1) (N := some 171) (v := ?_) (a' := ?_) (zF 13 3) rfl rfl (any_of HT_.out (by kernel_rfl)) (fun _ _ _ h => h) (Or.inl ⟨by rfl, ?_⟩) ?_ ?_
  rotate_left; (intro w'; go_simp; with_reducible rfl); rotate_left; (simp only [Act.put, zA, zZ, zS, i64_w, i32_w]; rfl)
  refine pure_ (i := 2) (N := some 172) (v := ?_) (a' := ?_) (zF 13 7) rfl rfl (any_of HT_.out (by kernel_rfl)) (fun _ _ _ h => h) (Or.inl ⟨by rfl, ?_⟩) ?_ ?_
  rotate_left; (intro w'; go_simp; with_reducible rfl); rotate_left; (simp only [Act.put, zA, zZ, zS, i64_w, i32_w]; rfl)
  refine pure_ (i := 4) (N := some 174) (v := ?_) (a' := ?_) (zF 13 23) rfl rfl (any_of HT_.out (by kernel_rfl)) (fun _ _ _ h => h) (Or.inl ⟨by rfl, ?_⟩) ?_ ?_
  rotate_left; (intro w'; go_simp; with_reducible rfl); rotate_left; (simp only [Act.put, zA, zZ, zS, i64_w, i32_w]; rfl)
  refine pure_ (i := 5) (N := some 175) (v := ?_) (a' := ?_) (zF 13 55) rfl rfl (any_of HT_.out (by kernel_rfl)) (fun _ _ _ h => h) (Or.inl ⟨by rfl, ?_⟩) ?_ ?_
  rotate_left; (intro w'; go_simp; with_reducible rfl); rotate_left; (simp only [Act.put, zA, zZ, zS, i64_w, i32_w]; rfl)
  refine pure_ (i := 6) (N := some 176) (v := ?_) (a' := ?_) (zF 13 119) rfl rfl (any_of HT_.out (by kernel_rfl)) (fun _ _ _ h => h) (Or.inl ⟨by rfl, ?_⟩) ?_ ?_
  rotate_left; (intro w'; go_simp; with_reducible rfl); rotate_left; (simp only [Act.put, zA, zZ, zS, i64_w, i32_w]; rfl)
  refine take_ (i := 3) (N := some 173) (v := ?_) (a' := ?_) (zF 13 127) rfl rfl (take_ofW HT_.out HW_.out (by kernel_rfl)) (fun _ _ _ h => h) (Or.inl ⟨by rfl, ?_⟩) hHeld ?_ ?_
  rotate_left; (rintro w' ⟨s0, s1, s2⟩; go_simp; with_reducible rfl); rotate_left; (simp only [Act.put, zA, zZ, zS, i64_w, i32_w]; rfl)
  refine take_ (i := 7) (N := some 177) (v := ?_) (a' := ?_) (zF 13 255) rfl rfl (take_ofW HT_.out HW_.out (by kernel_rfl)) (fun _ _ _ h => h) (Or.inl ⟨by rfl, ?_⟩) hHeld ?_ ?_
  rotate_left; (rintro w' ⟨s0, s1, s2⟩; go_simp; with_reducible rfl); rotate_left; (simp only [Act.put, zA, zZ, zS, i64_w, i32_w]; rfl)
  refine pure_ (i := 8) (N := some 178) (v := ?_) (a' := ?_) (zF 13 511) rfl rfl (any_of HT_.out (by kernel_rfl)) (fun _ _ _ h => h) (Or.inl ⟨by rfl, ?_⟩) ?_ ?_
  rotate_left; (intro w'; go_simp; with_reducible rfl); rotate_left; (simp only [Act.put, zA, zZ, zS, i64_w, i32_w]; rfl)
  refine take_ (i := 9) (N := some 179) (v := ?_) (a' := ?_) (zF 13 1023) rfl rfl (take_ofW HT_.out HW_.out (by kernel_rfl)) (fun _ _ _ h => h) (Or.inl ⟨by rfl, ?_⟩) hHeld ?_ ?_
  rotate_left; (rintro w' ⟨s0, s1, s2⟩; go_simp; with_reducible rfl); rotate_left; (simp only [Act.put, zA, zZ, zS, i64_w, i32_w]; rfl)
  refine pure_ (i := 10) (N := some 180) (v := ?_) (a' := ?_) (zF 13 2047) rfl rfl (any_of HT_.out (by kernel_rfl)) (fun _ _ _ h => h) (Or.inl ⟨by rfl, ?_⟩) ?_ ?_
  rotate_left; (intro w'; go_simp; with_reducible rfl); rotate_left; (simp only [Act.put, zA, zZ, zS, i64_w, i32_w]; rfl)
  refine pure_ (i := 11) (N := some 181) (v := ?_) (a' := ?_) (zF 13 4095) rfl rfl (any_of HT_.out (by kernel_rfl)) (fun _ _ _ h => h) (Or.inl ⟨by rfl, ?_⟩) ?_ ?_
  rotate_left; (intro w'; go_simp; with_reducible rfl); rotate_left; (simp only [Act.put, zA, zZ, zS, i64_w, i32_w]; rfl)
  refine last_ (i := 12) (N := none) (zF 13 8191) rfl rfl (one_of HT_.out (by kernel_rfl)) (by decide) (fun K hK => ?_)
  have q3d : w3d.cell? ⟨gp, pl, none⟩ = some (.int .i64 x) := H3d.out.cpx HPL.out HX.out
  have qf3d := H3d.out.freep pl
  refine skip_ (w1 := ?_) (by rfl) rfl ?_ ?_
  rotate_left
  · go_simp
    with_reducible rfl
  refine hK.out _ _ ?_
  clear hK K
  clear q3d qf3d
  refine done_ (done_of HT_.out (by kernel_rfl)) ?_
  clear hHeld
  have H3 := Aside0.mk (show PV hs B w0 (w3d.setCell ⟨gp, pl, none⟩ (.int .i64 (Go.bits .or .i64 x (-2147483648)))) g gp gd n m ⟨ps.set pl (Go.bits .or .i64 x (-2147483648)), da, dl, pl, cmd, st⟩ from H3d.out.set_p pl (Go.bits .or .i64 x (-2147483648)))
  clear H3d
  generalize w3d.setCell ⟨gp, pl, none⟩ (.int .i64 (Go.bits .or .i64 x (-2147483648))) = w3 at H3 ⊢
  have c12 := H3.out.c12
  have f12 := H3.out.free 12
  have H9 := Aside0.mk (H3.out.set_pl k2 (k2 : Int) rfl)
  go_wp2_with fail
  clear c12 f12 H3
  generalize w3.setCell ⟨g, 12, none⟩ (.int .i64 (k2 : Int)) = w9 at H9 ⊢
  replace H9 : Aside0 (PV hs B w0 w9 g gp gd n m ⟨ps.set pl (Go.bits .or .i64 x (-2147483648)), da, dl, k2, cmd, st⟩) := ⟨H9.out⟩
  refine start_ (n := 10) (S := (fun w' => w'.cell? ⟨g, 12, none⟩ = some (.int .i64 (k2 : Int)) ∧ w'.cell? ⟨g, 9, none⟩ = some (.slice (some ⟨gp, 0, none⟩) n n))) (ds := []) #[false, false, false, false, false, false, false, false, false, false] (by kernel_rfl) rfl rfl ⟨H9.out.c12, H9.out.c9⟩ (fun hHeld => ?_)
  refine with_tabW s32_tab s32_bits (fun HT_ HW_ => ?_)
  have H10d := Aside0.mk (show PV hs B w0 w9.drew g gp gd n m ⟨ps.set pl (Go.bits .or .i64 x (-2147483648)), da, dl, k2, cmd, st⟩ from H9.out.drew)
  clear H9
  generalize w9.drew = w10d at H10d hHeld ⊢
  refine pure_ (i := 0) (N := some 195) (v := ?_) (a' := ?_) (zF 10 1) rfl rfl (any_of HT_.out (by kernel_rfl)) (fun _ _ _ h => h) (Or.inl ⟨by rfl, ?_⟩) ?_ ?_
  rotate_left; (intro w'; go_simp; with_reducible rfl); rotate_left; (simp only [Act.put, zA, zZ, zS, i64_w, i32_w]; rfl)
  refine pure_ (i := 1) (N := some 196) (v := ?_) (a' := ?_) (zF 10 3) rfl rfl (any_of HT_.out (by kernel_rfl)) (fun _ _ _ h => h) (Or.inl ⟨by rfl, ?_⟩) ?_ ?_
  rotate_left; (intro w'; go_simp; with_reducible rfl); rotate_left; (simp only [Act.put, zA, zZ, zS, i64_w, i32_w]; rfl)
  refine pure_ (i := 2) (N := some 197) (v := ?_) (a' := ?_) (zF 10 7) rfl rfl (any_of HT_.out (by kernel_rfl)) (fun _ _ _ h => h) (Or.inl ⟨by rfl, ?_⟩) ?_ ?_
  rotate_left; (intro w'; go_simp; with_reducible rfl); rotate_left; (simp only [Act.put, zA, zZ, zS, i64_w, i32_w]; rfl)
  refine pure_ (i := 4) (N := some 199) (v := ?_) (a' := ?_) (zF 10 23) rfl rfl (any_of HT_.out (by kernel_rfl)) (fun _ _ _ h => h) (Or.inl ⟨by rfl, ?_⟩) ?_ ?_
  rotate_left; (intro w'; go_simp; with_reducible rfl); rotate_left; (simp only [Act.put, zA, zZ, zS, i64_w, i32_w]; rfl)
  refine pure_ (i := 5) (N := some 200) (v := ?_) (a' := ?_) (zF 10 55) rfl rfl (any_of HT_.out (by kernel_rfl)) (fun _ _ _ h => h) (Or.inl ⟨by rfl, ?_⟩) ?_ ?_
  rotate_left; (intro w'; go_simp; with_reducible rfl); rotate_left; (simp only [Act.put, zA, zZ, zS, i64_w, i32_w]; rfl)
  refine pure_ (i := 6) (N := some 201) (v := ?_) (a' := ?_) (zF 10 119) rfl rfl (any_of HT_.out (by kernel_rfl)) (fun _ _ _ h => h) (Or.inl ⟨by rfl, ?_⟩) ?_ ?_
  rotate_left; (intro w'; go_simp; with_reducible rfl); rotate_left; (simp only [Act.put, zA, zZ, zS, i64_w, i32_w]; rfl)
  refine take_ (i := 3) (N := some 198) (v := ?_) (a' := ?_) (zF 10 127) rfl rfl (take_ofW HT_.out HW_.out (by kernel_rfl)) (fun _ _ _ h => h) (Or.inl ⟨by rfl, ?_⟩) hHeld ?_ ?_
  rotate_left; (rintro w' ⟨s0, s1⟩; go_simp; with_reducible rfl); rotate_left; (simp only [Act.put, zA, zZ, zS, i64_w, i32_w]; rfl)
  refine take_ (i := 7) (N := some 202) (v := ?_) (a' := ?_) (zF 10 255) rfl rfl (take_ofW HT_.out HW_.out (by kernel_rfl)) (fun _ _ _ h => h) (Or.inl ⟨by rfl, ?_⟩) hHeld ?_ ?_
  rotate_left; (rintro w' ⟨s0, s1⟩; go_simp; with_reducible rfl); rotate_left; (simp only [Act.put, zA, zZ, zS, i64_w, i32_w]; rfl)
  refine pure_ (i := 8) (N := some 203) (v := ?_) (a' := ?_) (zF 10 511) rfl rfl (any_of HT_.out (by kernel_rfl)) (fun _ _ _ h => h) (Or.inl ⟨by rfl, ?_⟩) ?_ ?_
  rotate_left; (intro w'; go_simp; with_reducible rfl); rotate_left; (simp only [Act.put, zA, zZ, zS, i64_w, i32_w]; rfl)
  refine pure_ (i := 9) (N := some 204) (v := ?_) (a' := ?_) (zF 10 1023) rfl rfl (any_of HT_.out (by kernel_rfl)) (fun _ _ _ h => h) (Or.inl ⟨by rfl, ?_⟩) ?_ ?_
  rotate_left; (intro w'; go_simp; with_reducible rfl); rotate_left; (simp only [Act.put, zA, zZ, zS, i64_w, i32_w]; rfl)
  refine done_ (done_of HT_.out (by kernel_rfl)) ?_
  clear hHeld
  go_wp2_with fail
  refine start_ (n := 10) (S := (fun w' => w'.cell? ⟨g, 9, none⟩ = some (.slice (some ⟨gp, 0, none⟩) n n) ∧ w'.cell? ⟨g, 12, none⟩ = some (.int .i64 (k2 : Int)))) (ds := [9]) #[false, false, false, false, false, false, false, false, false, false] (by kernel_rfl) rfl rfl ⟨H10d.out.c9, H10d.out.c12⟩ (fun hHeld => ?_)
  refine with_tabW s33_tab s33_bits (fun HT_ HW_ => ?_)
  have H11d := Aside0.mk (show PV hs B w0 w10d.drew g gp gd n m ⟨ps.set pl (Go.bits .or .i64 x (-2147483648)), da, dl, k2, cmd, st⟩ from H10d.out.drew)
  clear H10d
  generalize w10d.drew = w11d at H11d hHeld ⊢
  refine pure_ (i := 0) (N := some 205) (v := ?_) (a' := ?_) (zF 10 1) rfl rfl (any_of HT_.out (by kernel_rfl)) (fun _ _ _ h => h) (Or.inl ⟨by rfl, ?_⟩) ?_ ?_
  rotate_left; (intro w'; go_simp; with_reducible rfl); rotate_left; (simp only [Act.put, zA, zZ, zS, i64_w, i32_w]; rfl)
  refine pure_ (i := 1) (N := some 206) (v := ?_) (a' := ?_) (zF 10 3) rfl rfl (any_of HT_.out (by kernel_rfl)) (fun _ _ _ h => h) (Or.inl ⟨by rfl, ?_⟩) ?_ ?_
  rotate_left; (intro w'; go_simp; with_reducible rfl); rotate_left; (simp only [Act.put, zA, zZ, zS, i64_w, i32_w]; rfl)
  refine pure_ (i := 2) (N := some 207) (v := ?_) (a' := ?_) (zF 10 7) rfl rfl (any_of HT_.out (by kernel_rfl)) (fun _ _ _ h => h) (Or.inl ⟨by rfl, ?_⟩) ?_ ?_
  rotate_left; (intro w'; go_simp; with_reducible rfl); rotate_left; (simp only [Act.put, zA, zZ, zS, i64_w, i32_w]; rfl)
  refine pure_ (i := 4) (N := some 209) (v := ?_) (a' := ?_) (zF 10 23) rfl rfl (any_of HT_.out (by kernel_rfl)) (fun _ _ _ h => h) (Or.inl ⟨by rfl, ?_⟩) ?_ ?_
  rotate_left; (intro w'; go_simp; with_reducible rfl); rotate_left; (simp only [Act.put, zA, zZ, zS, i64_w, i32_w]; rfl)
  refine pure_ (i := 5) (N := some 210) (v := ?_) (a' := ?_) (zF 10 55) rfl rfl (any_of HT_.out (by kernel_rfl)) (fun _ _ _ h => h) (Or.inl ⟨by rfl, ?_⟩) ?_ ?_
  rotate_left; (intro w'; go_simp; with_reducible rfl); rotate_left; (simp only [Act.put, zA, zZ, zS, i64_w, i32_w]; rfl)
  refine pure_ (i := 6) (N := some 211) (v := ?_) (a' := ?_) (zF 10 119) rfl rfl (any_of HT_.out (by kernel_rfl)) (fun _ _ _ h => h) (Or.inl ⟨by rfl, ?_⟩) ?_ ?_
  rotate_left; (intro w'; go_simp; with_reducible rfl); rotate_left; (simp only [Act.put, zA, zZ, zS, i64_w, i32_w]; rfl)
  refine take_ (i := 3) (N := some 208) (v := ?_) (a' := ?_) (zF 10 127) rfl rfl (take_ofW HT_.out HW_.out (by kernel_rfl)) (fun _ _ _ h => h) (Or.inl ⟨by rfl, ?_⟩) hHeld ?_ ?_
  rotate_left; (rintro w' ⟨s0, s1⟩; go_simp; with_reducible rfl); rotate_left; (simp only [Act.put, zA, zZ, zS, i64_w, i32_w]; rfl)
  refine take_ (i := 7) (N := some 212) (v := ?_) (a' := ?_) (zF 10 255) rfl rfl (take_ofW HT_.out HW_.out (by kernel_rfl)) (fun _ _ _ h => h) (Or.inl ⟨by rfl, ?_⟩) hHeld ?_ ?_
  rotate_left; (rintro w' ⟨s0, s1⟩; go_simp; with_reducible rfl); rotate_left; (simp only [Act.put, zA, zZ, zS, i64_w, i32_w]; rfl)
  refine pure_ (i := 8) (N := some 213) (v := ?_) (a' := ?_) (zF 10 511) rfl rfl (any_of HT_.out (by kernel_rfl)) (fun _ _ _ h => h) (Or.inl ⟨by rfl, ?_⟩) ?_ ?_
  rotate_left; (intro w'; go_simp; with_reducible rfl); rotate_left; (simp only [Act.put, zA, zZ, zS, i64_w, i32_w]; rfl)
  refine last_ (i := 9) (N := none) (zF 10 1023) rfl rfl (one_of HT_.out (by kernel_rfl)) (by decide) (fun K hK => ?_)
  have q11d : w11d.cell? ⟨gp, k2, none⟩ = some (.int .i64 ((ps.set pl (Go.bits .or .i64 x (-2147483648))).getD k2 0)) := H11d.out.cp k2 HM.out
  have qf11d := H11d.out.freep k2
  refine skip_ (w1 := ?_) (by rfl) rfl ?_ ?_
  rotate_left
  · go_simp
    with_reducible rfl
  refine hK.out _ _ ?_
  clear hK K
  clear q11d qf11d
  refine done_ (done_of HT_.out (by kernel_rfl)) ?_
  clear hHeld
  have H11 := Aside0.mk (show PV hs B w0 (w11d.setCell ⟨gp, k2, none⟩ (.int .i64 2147483647)) g gp gd n m ⟨(ps.set pl (Go.bits .or .i64 x (-2147483648))).set k2 2147483647, da, dl, k2, cmd, st⟩ from H11d.out.set_p k2 2147483647)
  clear H11d
  generalize w11d.setCell ⟨gp, k2, none⟩ (.int .i64 2147483647) = w11 at H11 ⊢
  go_wp2
  go_end0
  refine ⟨rfl, ?_⟩
  have h_ := H11.out
  rw [HK2.out] at h_
  rw [HX.out] at h_
  exact h_
set_option maxHeartbeats 8000000 in
set_option maxRecDepth 100000 in
theorem pa_colon_last (hs : Nat → Value) (B : Nat) (w0 w : World) (g gp gd n m : Nat) (p : PM) (h : PV hs B w0 w g gp gd n m p) (st2 : Int) (hpl : p.pl < n) (hmo : n ≤ p.pl + 1) (hbig : n ≤ 1000000) :
    Calls Tryd.prog 68 #[.pointer (some ⟨g, 0, none⟩), .int .u8 8, .int .u8 st2, .int .u8 58] w fun e w' => e = .returned (.tuple #[]) ∧ PV hs B w0 w' g gp gd n m (⟨p.ps.set p.pl (Go.bits .or .i64 (p.ps.getD p.pl 0) (-2147483648)), p.da, p.dl, p.pl + 1, p.cmd, p.st⟩) := by
  obtain ⟨ps, da, dl, pl, cmd, st⟩ := p
  replace hpl : pl < n := hpl
  replace hmo : n ≤ pl + 1 := hmo
  replace hbig : n ≤ 1000000 := hbig
  obtain ⟨w1, hw1⟩ : ∃ w1, w1 = w := ⟨_, rfl⟩
  rw [← hw1]
  have H1 := Aside0.mk (show PV hs B w0 w1 g gp gd n m ⟨ps, da, dl, pl, cmd, st⟩ by rw [hw1]; exact h)
  clear hw1 h
  obtain ⟨x, hx⟩ : ∃ x, x = ps.getD pl 0 := ⟨_, rfl⟩
  have HX := Aside0.mk hx
  clear hx
  have HPL := Aside0.mk hpl
  have tn : decide ((n : Int) ≤ (pl : Int)) = false := decide_eq_false (by omega)
  have p0 : (0 : Int) ≤ (pl : Int) := by omega
  have p1 : (pl : Int) < (n : Int) := by omega
  obtain ⟨k2, hk2⟩ : ∃ k2, k2 = pl + 1 := ⟨_, rfl⟩
  have HK2 := Aside0.mk hk2
  have hwr : wrap64 ((pl : Int) + 1) = (k2 : Int) := by have := hbig; unfold wrap64; omega
  have tm : decide ((k2 : Int) < (n : Int)) = false := decide_eq_false (by omega)
  have tmn : ¬ k2 < n := by omega
  clear hpl hmo hbig hk2
  go_enter Tryd.func68, Tryd.ntmps68
  go_wp2_with fail
  refine start_ (n := 10) (S := (fun w' => w'.cell? ⟨g, 9, none⟩ = some (.slice (some ⟨gp, 0, none⟩) n n) ∧ w'.cell? ⟨g, 12, none⟩ = some (.int .i64 (pl : Int)))) (ds := []) #[false, false, false, false, false, false, false, false, false, false] (by kernel_rfl) rfl rfl ⟨H1.out.c9, H1.out.c12⟩ (fun hHeld => ?_)
  refine with_tabW s22_tab s22_bits (fun HT_ HW_ => ?_)
  have H2d := Aside0.mk (show PV hs B w0 w1.drew g gp gd n m ⟨ps, da, dl, pl, cmd, st⟩ from H1.out.drew)
  clear H1
  generalize w1.drew = w2d at H2d hHeld ⊢
  refine pure_ (i := 0) (N := some 105) (v := ?_) (a' := ?_) (zF 10 1) rfl rfl (any_of HT_.out (by kernel_rfl)) (fun _ _ _ h => h) (Or.inl ⟨by rfl, ?_⟩) ?_ ?_
  rotate_left; (intro w'; go_simp; with_reducible rfl); rotate_left; (simp only [Act.put, zA, zZ, zS, i64_w, i32_w]; rfl)
  refine pure_ (i := 1) (N := some 106) (v := ?_) (a' := ?_) (zF 10 3) rfl rfl (any_of HT_.out (by kernel_rfl)) (fun _ _ _ h => h) (Or.inl ⟨by rfl, ?_⟩) ?_ ?_
  rotate_left; (intro w'; go_simp; with_reducible rfl); rotate_left; (simp only [Act.put, zA, zZ, zS, i64_w, i32_w]; rfl)
  refine pure_ (i := 2) (N := some 107) (v := ?_) (a' := ?_) (zF 10 7) rfl rfl (any_of HT_.out (by kernel_rfl)) (fun _ _ _ h => h) (Or.inl ⟨by rfl, ?_⟩) ?_ ?_
  rotate_left; (intro w'; go_simp; with_reducible rfl); rotate_left; (simp only [Act.put, zA, zZ, zS, i64_w, i32_w]; rfl)
  refine pure_ (i := 4) (N := some 109) (v := ?_) (a' := ?_) (zF 10 23) rfl rfl (any_of HT_.out (by kernel_rfl)) (fun _ _ _ h => h) (Or.inl ⟨by rfl, ?_⟩) ?_ ?_
  rotate_left; (intro w'; go_simp; with_reducible rfl); rotate_left; (simp only [Act.put, zA, zZ, zS, i64_w, i32_w]; rfl)
  refine pure_ (i := 5) (N := some 110) (v := ?_) (a' := ?_) (zF 10 55) rfl rfl (any_of HT_.out (by kernel_rfl)) (fun _ _ _ h => h) (Or.inl ⟨by rfl, ?_⟩) ?_ ?_
  rotate_left; (intro w'; go_simp; with_reducible rfl); rotate_left; (simp only [Act.put, zA, zZ, zS, i64_w, i32_w]; rfl)
  refine pure_ (i := 6) (N := some 111) (v := ?_) (a' := ?_) (zF 10 119) rfl rfl (any_of HT_.out (by kernel_rfl)) (fun _ _ _ h => h) (Or.inl ⟨by rfl, ?_⟩) ?_ ?_
  rotate_left; (intro w'; go_simp; with_reducible rfl); rotate_left; (simp only [Act.put, zA, zZ, zS, i64_w, i32_w]; rfl)
  refine take_ (i := 3) (N := some 108) (v := ?_) (a' := ?_) (zF 10 127) rfl rfl (take_ofW HT_.out HW_.out (by kernel_rfl)) (fun _ _ _ h => h) (Or.inl ⟨by rfl, ?_⟩) hHeld ?_ ?_
  rotate_left; (rintro w' ⟨s0, s1⟩; go_simp; with_reducible rfl); rotate_left; (simp only [Act.put, zA, zZ, zS, i64_w, i32_w]; rfl)
  refine take_ (i := 7) (N := some 112) (v := ?_) (a' := ?_) (zF 10 255) rfl rfl (take_ofW HT_.out HW_.out (by kernel_rfl)) (fun _ _ _ h => h) (Or.inl ⟨by rfl, ?_⟩) hHeld ?_ ?_
  rotate_left; (rintro w' ⟨s0, s1⟩; go_simp; with_reducible rfl); rotate_left; (simp only [Act.put, zA, zZ, zS, i64_w, i32_w]; rfl)
  refine pure_ (i := 8) (N := some 113) (v := ?_) (a' := ?_) (zF 10 511) rfl rfl (any_of HT_.out (by kernel_rfl)) (fun _ _ _ h => h) (Or.inl ⟨by rfl, ?_⟩) ?_ ?_
  rotate_left; (intro w'; go_simp; with_reducible rfl); rotate_left; (simp only [Act.put, zA, zZ, zS, i64_w, i32_w]; rfl)
  refine pure_ (i := 9) (N := some 114) (v := ?_) (a' := ?_) (zF 10 1023) rfl rfl (any_of HT_.out (by kernel_rfl)) (fun _ _ _ h => h) (Or.inl ⟨by rfl, ?_⟩) ?_ ?_
  rotate_left; (intro w'; go_simp; with_reducible rfl); rotate_left; (simp only [Act.put, zA, zZ, zS, i64_w, i32_w]; rfl)
  refine done_ (done_of HT_.out (by kernel_rfl)) ?_
  clear hHeld
  go_wp2_with fail
  refine start_ (n := 13) (S := (fun w' => w'.cell? ⟨g, 9, none⟩ = some (.slice (some ⟨gp, 0, none⟩) n n) ∧ w'.cell? ⟨g, 12, none⟩ = some (.int .i64 (pl : Int)) ∧ w'.cell? ⟨gp, pl, none⟩ = some (.int .i64 x))) (ds := [12]) #[false, false, false, false, false, false, false, false, false, false, false, false, false] (by kernel_rfl) rfl rfl ⟨H2d.out.c9, H2d.out.c12, H2d.out.cpx HPL.out HX.out⟩ (fun hHeld => ?_)
  refine with_tabW s29_tab s29_bits (fun HT_ HW_ => ?_)
  have H3d := Aside0.mk (show PV hs B w0 w2d.drew g gp gd n m ⟨ps, da, dl, pl, cmd, st⟩ from H2d.out.drew)
  clear H2d
  generalize w2d.drew = w3d at H3d hHeld ⊢
  refine pure_ (i := 0) (N := some 170) (v := ?_) (a' := ?_) (zF 13 1) rfl rfl (any_of HT_.out (by kernel_rfl)) (fun _ _ _ h => h) (Or.inl ⟨by rfl, ?_⟩) ?_ ?_
  rotate_left; (intro w'; go_simp; with_reducible rfl); rotate_left; (simp only [Act.put, zA, zZ, zS, i64_w, i32_w]; rfl)
  refine pure_ (i := 1) (N := some 171) (v := ?_) (a' := ?_) (zF 13 3) rfl rfl (any_of HT_.out (by kernel_rfl)) (fun _ _ _ h => h) (Or.inl ⟨by rfl, ?_⟩) ?_ ?_
  rotate_left; (intro w'; go_simp; with_reducible rfl); rotate_left; (simp only [Act.put, zA, zZ, zS, i64_w, i32_w]; rfl)
  refine pure_ (i := 2) (N := some 172) (v := ?_) (a' := ?_) (zF 13 7) rfl rfl (any_of HT_.out (by kernel_rfl)) (fun _ _ _ h => h) (Or.inl ⟨by rfl, ?_⟩) ?_ ?_
  rotate_left; (intro w'; go_simp; with_reducible rfl); rotate_left; (simp only [Act.put, zA, zZ, zS, i64_w, i32_w]; rfl)
  refine pure_ (i := 4) (N := some 174) (v := ?_) (a' := ?_) (zF 13 23) rfl rfl (any_of HT_.out (by kernel_rfl)) (fun _ _ _ h => h) (Or.inl ⟨by rfl, ?_⟩) ?_ ?_
  rotate_left; (intro w'; go_simp; with_reducible rfl); rotate_left; (simp only [Act.put, zA, zZ, zS, i64_w, i32_w]; rfl)
  refine pure_ (i := 5) (N := some 175) (v := ?_) (a' := ?_) (zF 13 55) rfl rfl (any_of HT_.out (by kernel_rfl)) (fun _ _ _ h => h) (Or.inl ⟨by rfl, ?_⟩) ?_ ?_
  rotate_left; (intro w'; go_simp; with_reducible rfl); rotate_left; (simp only [Act.put, zA, zZ, zS, i64_w, i32_w]; rfl)
  refine pure_ (i := 6) (N := some 176) (v := ?_) (a' := ?_) (zF 13 119) rfl rfl (any_of HT_.out (by kernel_rfl)) (fun _ _ _ h => h) (Or.inl ⟨by rfl, ?_⟩) ?_ ?_
  rotate_left; (intro w'; go_simp; with_reducible rfl); rotate_left; (simp only [Act.put, zA, zZ, zS, i64_w, i32_w]; rfl)
  refine take_ (i := 3) (N := some 173) (v := ?_) (a' := ?_) (zF 13 127) rfl rfl (take_ofW HT_.out HW_.out (by kernel_rfl)) (fun _ _ _ h => h) (Or.inl ⟨by rfl, ?_⟩) hHeld ?_ ?_
  rotate_left; (rintro w' ⟨s0, s1, s2⟩; go_simp; with_reducible rfl); rotate_left; (simp only [Act.put, zA, zZ, zS, i64_w, i32_w]; rfl)
  refine take_ (i := 7) (N := some 177) (v := ?_) (a' := ?_) (zF 13 255) rfl rfl (take_ofW HT_.out HW_.out (by kernel_rfl)) (fun _ _ _ h => h) (Or.inl ⟨by rfl, ?_⟩) hHeld ?_ ?_
  rotate_left; (rintro w' ⟨s0, s1, s2⟩; go_simp; with_reducible rfl); rotate_left; (simp only [Act.put, zA, zZ, zS, i64_w, i32_w]; rfl)
  refine pure_ (i := 8) (N := some 178) (v := ?_) (a' := ?_) (zF 13 511) rfl rfl (any_of HT_.out (by kernel_rfl)) (fun _ _ _ h => h) (Or.inl ⟨by rfl, ?_⟩) ?_ ?_
  rotate_left; (intro w'; go_simp; with_reducible rfl); rotate_left; (simp only [Act.put, zA, zZ, zS, i64_w, i32_w]; rfl)
  refine take_ (i := 9) (N := some 179) (v := ?_) (a' := ?_) (zF 13 1023) rfl rfl (take_ofW HT_.out HW_.out (by kernel_rfl)) (fun _ _ _ h => h) (Or.inl ⟨by rfl, ?_⟩) hHeld ?_ ?_
  rotate_left; (rintro w' ⟨s0, s1, s2⟩; go_simp; with_reducible rfl); rotate_left; (simp only [Act.put, zA, zZ, zS, i64_w, i32_w]; rfl)
  refine pure_ (i := 10) (N := some 180) (v := ?_) (a' := ?_) (zF 13 2047) rfl rfl (any_of HT_.out (by kernel_rfl)) (fun _ _ _ h => h) (Or.inl ⟨by rfl, ?_⟩) ?_ ?_
  rotate_left; (intro w'; go_simp; with_reducible rfl); rotate_left; (simp only [Act.put, zA, zZ, zS, i64_w, i32_w]; rfl)
  refine pure_ (i := 11) (N := some 181) (v := ?_) (a' := ?_) (zF 13 4095) rfl rfl (any_of HT_.out (by kernel_rfl)) (fun _ _ _ h => h) (Or.inl ⟨by rfl, ?_⟩) ?_ ?_
  rotate_left; (intro w'; go_simp; with_reducible rfl); rotate_left; (simp only [Act.put, zA, zZ, zS, i64_w, i32_w]; rfl)
  refine last_ (i := 12) (N := none) (zF 13 8191) rfl rfl (one_of HT_.out (by kernel_rfl)) (by decide) (fun K hK => ?_)
  have q3d : w3d.cell? ⟨gp, pl, none⟩ = some (.int .i64 x) := H3d.out.cpx HPL.out HX.out
  have qf3d := H3d.out.freep pl
  refine skip_ (w1 := ?_) (by rfl) rfl ?_ ?_
  rotate_left
  · go_simp
    with_reducible rfl
  refine hK.out _ _ ?_
  clear hK K
  clear q3d qf3d
  refine done_ (done_of HT_.out (by kernel_rfl)) ?_
  clear hHeld
  have H3 := Aside0.mk (show PV hs B w0 (w3d.setCell ⟨gp, pl, none⟩ (.int .i64 (Go.bits .or .i64 x (-2147483648)))) g gp gd n m ⟨ps.set pl (Go.bits .or .i64 x (-2147483648)), da, dl, pl, cmd, st⟩ from H3d.out.set_p pl (Go.bits .or .i64 x (-2147483648)))
  clear H3d
  generalize w3d.setCell ⟨gp, pl, none⟩ (.int .i64 (Go.bits .or .i64 x (-2147483648))) = w3 at H3 ⊢
  have c12 := H3.out.c12
  have f12 := H3.out.free 12
  have H9 := Aside0.mk (H3.out.set_pl k2 (k2 : Int) rfl)
  go_wp2_with fail
  clear c12 f12 H3
  generalize w3.setCell ⟨g, 12, none⟩ (.int .i64 (k2 : Int)) = w9 at H9 ⊢
  replace H9 : Aside0 (PV hs B w0 w9 g gp gd n m ⟨ps.set pl (Go.bits .or .i64 x (-2147483648)), da, dl, k2, cmd, st⟩) := ⟨H9.out⟩
  refine start_ (n := 10) (S := (fun w' => w'.cell? ⟨g, 12, none⟩ = some (.int .i64 (k2 : Int)) ∧ w'.cell? ⟨g, 9, none⟩ = some (.slice (some ⟨gp, 0, none⟩) n n))) (ds := []) #[false, false, false, false, false, false, false, false, false, false] (by kernel_rfl) rfl rfl ⟨H9.out.c12, H9.out.c9⟩ (fun hHeld => ?_)
  refine with_tabW s32_tab s32_bits (fun HT_ HW_ => ?_)
  have H10d := Aside0.mk (show PV hs B w0 w9.drew g gp gd n m ⟨ps.set pl (Go.bits .or .i64 x (-2147483648)), da, dl, k2, cmd, st⟩ from H9.out.drew)
  clear H9
  generalize w9.drew = w10d at H10d hHeld ⊢
  refine pure_ (i := 0) (N := some 195) (v := ?_) (a' := ?_) (zF 10 1) rfl rfl (any_of HT_.out (by kernel_rfl)) (fun _ _ _ h => h) (Or.inl ⟨by rfl, ?_⟩) ?_ ?_
  rotate_left; (intro w'; go_simp; with_reducible rfl); rotate_left; (simp only [Act.put, zA, zZ, zS, i64_w, i32_w]; rfl)
  refine pure_ (i := 1) (N := some 196) (v := ?_) (a' := ?_) (zF 10 3) rfl rfl (any_of HT_.out (by kernel_rfl)) (fun _ _ _ h => h) (Or.inl ⟨by rfl, ?_⟩) ?_ ?_
  rotate_left; (intro w'; go_simp; with_reducible rfl); rotate_left; (simp only [Act.put, zA, zZ, zS, i64_w, i32_w]; rfl)
  refine pure_ (i := 2) (N := some 197) (v := ?_) (a' := ?_) (zF 10 7) rfl rfl (any_of HT_.out (by kernel_rfl)) (fun _ _ _ h => h) (Or.inl ⟨by rfl, ?_⟩) ?_ ?_
  rotate_left; (intro w'; go_simp; with_reducible rfl); rotate_left; (simp only [Act.put, zA, zZ, zS, i64_w, i32_w]; rfl)
  refine pure_ (i := 4) (N := some 199) (v := ?_) (a' := ?_) (zF 10 23) rfl rfl (any_of HT_.out (by kernel_rfl)) (fun _ _ _ h => h) (Or.inl ⟨by rfl, ?_⟩) ?_ ?_
  rotate_left; (intro w'; go_simp; with_reducible rfl); rotate_left; (simp only [Act.put, zA, zZ, zS, i64_w, i32_w]; rfl)
  refine pure_ (i := 5) (N := some 200) (v := ?_) (a' := ?_) (zF 10 55) rfl rfl (any_of HT_.out (by kernel_rfl)) (fun _ _ _ h => h) (Or.inl ⟨by rfl, ?_⟩) ?_ ?_
  rotate_left; (intro w'; go_simp; with_reducible rfl); rotate_left; (simp only [Act.put, zA, zZ, zS, i64_w, i32_w]; rfl)
  refine pure_ (i := 6) (N := some 201) (v := ?_) (a' := ?_) (zF 10 119) rfl rfl (any_of HT_.out (by kernel_rfl)) (fun _ _ _ h => h) (Or.inl ⟨by rfl, ?_⟩) ?_ ?_
  rotate_left; (intro w'; go_simp; with_reducible rfl); rotate_left; (simp only [Act.put, zA, zZ, zS, i64_w, i32_w]; rfl)
  refine take_ (i := 3) (N := some 198) (v := ?_) (a' := ?_) (zF 10 127) rfl rfl (take_ofW HT_.out HW_.out (by kernel_rfl)) (fun _ _ _ h => h) (Or.inl ⟨by rfl, ?_⟩) hHeld ?_ ?_
  rotate_left; (rintro w' ⟨s0, s1⟩; go_simp; with_reducible rfl); rotate_left; (simp only [Act.put, zA, zZ, zS, i64_w, i32_w]; rfl)
  refine take_ (i := 7) (N := some 202) (v := ?_) (a' := ?_) (zF 10 255) rfl rfl (take_ofW HT_.out HW_.out (by kernel_rfl)) (fun _ _ _ h => h) (Or.inl ⟨by rfl, ?_⟩) hHeld ?_ ?_
  rotate_left; (rintro w' ⟨s0, s1⟩; go_simp; with_reducible rfl); rotate_left; (simp only [Act.put, zA, zZ, zS, i64_w, i32_w]; rfl)
  refine pure_ (i := 8) (N := some 203) (v := ?_) (a' := ?_) (zF 10 511) rfl rfl (any_of HT_.out (by kernel_rfl)) (fun _ _ _ h => h) (Or.inl ⟨by rfl, ?_⟩) ?_ ?_
  rotate_left; (intro w'; go_simp; with_reducible rfl); rotate_left; (simp only [Act.put, zA, zZ, zS, i64_w, i32_w]; rfl)
  refine pure_ (i := 9) (N := some 204) (v := ?_) (a' := ?_) (zF 10 1023) rfl rfl (any_of HT_.out (by kernel_rfl)) (fun _ _ _ h => h) (Or.inl ⟨by rfl, ?_⟩) ?_ ?_
  rotate_left; (intro w'; go_simp; with_reducible rfl); rotate_left; (simp only [Act.put, zA, zZ, zS, i64_w, i32_w]; rfl)
  refine done_ (done_of HT_.out (by kernel_rfl)) ?_
  clear hHeld
  go_wp2
  go_end0
  refine ⟨rfl, ?_⟩
  have h_ := H10d.out
  rw [HK2.out] at h_
  rw [HX.out] at h_
  exact h_
set_option maxHeartbeats 8000000 in
set_option maxRecDepth 100000 in
theorem pa_semi_more (hs : Nat → Value) (B : Nat) (w0 w : World) (g gp gd n m : Nat) (p : PM) (h : PV hs B w0 w g gp gd n m p) (st2 : Int) (hpl : p.pl < n) (hmo : p.pl + 1 < n) (hbig : n ≤ 1000000) :
    Calls Tryd.prog 68 #[.pointer (some ⟨g, 0, none⟩), .int .u8 8, .int .u8 st2, .int .u8 59] w fun e w' => e = .returned (.tuple #[]) ∧ PV hs B w0 w' g gp gd n m (⟨(p.ps).set (p.pl + 1) 2147483647, p.da, p.dl, p.pl + 1, p.cmd, p.st⟩) := by
  obtain ⟨ps, da, dl, pl, cmd, st⟩ := p
  replace hpl : pl < n := hpl
  replace hmo : pl + 1 < n := hmo
  replace hbig : n ≤ 1000000 := hbig
  obtain ⟨w1, hw1⟩ : ∃ w1, w1 = w := ⟨_, rfl⟩
  rw [← hw1]
  have H1 := Aside0.mk (show PV hs B w0 w1 g gp gd n m ⟨ps, da, dl, pl, cmd, st⟩ by rw [hw1]; exact h)
  clear hw1 h
  have HPL := Aside0.mk hpl
  have tn : decide ((n : Int) ≤ (pl : Int)) = false := decide_eq_false (by omega)
  have p0 : (0 : Int) ≤ (pl : Int) := by omega
  have p1 : (pl : Int) < (n : Int) := by omega
  obtain ⟨k2, hk2⟩ : ∃ k2, k2 = pl + 1 := ⟨_, rfl⟩
  have HK2 := Aside0.mk hk2
  have hwr : wrap64 ((pl : Int) + 1) = (k2 : Int) := by have := hbig; unfold wrap64; omega
  have HM := Aside0.mk (show k2 < n by omega)
  have tm : decide ((k2 : Int) < (n : Int)) = true := decide_eq_true (by omega)
  have r0 : (0 : Int) ≤ (k2 : Int) := by omega
  have r1 : (k2 : Int) < (n : Int) := by omega
  clear hpl hmo hbig hk2
  go_enter Tryd.func68, Tryd.ntmps68
  go_wp2_with fail
  refine start_ (n := 10) (S := (fun w' => w'.cell? ⟨g, 9, none⟩ = some (.slice (some ⟨gp, 0, none⟩) n n) ∧ w'.cell? ⟨g, 12, none⟩ = some (.int .i64 (pl : Int)))) (ds := []) #[false, false, false, false, false, false, false, false, false, false] (by kernel_rfl) rfl rfl ⟨H1.out.c9, H1.out.c12⟩ (fun hHeld => ?_)
  refine with_tabW s22_tab s22_bits (fun HT_ HW_ => ?_)
  have H2d := Aside0.mk (show PV hs B w0 w1.drew g gp gd n m ⟨ps, da, dl, pl, cmd, st⟩ from H1.out.drew)
  clear H1
  generalize w1.drew = w2d at H2d hHeld ⊢
  refine pure_ (i := 0) (N := some 105) (v := ?_) (a' := ?_) (zF 10 1) rfl rfl (any_of HT_.out (by kernel_rfl)) (fun _ _ _ h => h) (Or.inl ⟨by rfl, ?_⟩) ?_ ?_
  rotate_left; (intro w'; go_simp; with_reducible rfl); rotate_left; (simp only [Act.put, zA, zZ, zS, i64_w, i32_w]; rfl)
  refine pure_ (i := 1) (N := some 106) (v := ?_) (a' := ?_) (zF 10 3) rfl rfl (any_of HT_.out (by kernel_rfl)) (fun _ _ _ h => h) (Or.inl ⟨by rfl, ?_⟩) ?_ ?_
  rotate_left; (intro w'; go_simp; with_reducible rfl); rotate_left; (simp only [Act.put, zA, zZ, zS, i64_w, i32_w]; rfl)
  refine pure_ (i := 2) (N := some 107) (v := ?_) (a' := ?_) (zF 10 7) rfl rfl (any_of HT_.out (by kernel_rfl)) (fun _ _ _ h => h) (Or.inl ⟨by rfl, ?_⟩) ?_ ?_
  rotate_left; (intro w'; go_simp; with_reducible rfl); rotate_left; (simp only [Act.put, zA, zZ, zS, i64_w, i32_w]; rfl)
  refine pure_ (i := 4) (N := some 109) (v := ?_) (a' := ?_) (zF 10 23) rfl rfl (any_of HT_.out (by kernel_rfl)) (fun _ _ _ h => h) (Or.inl ⟨by rfl, ?_⟩) ?_ ?_
  rotate_left; (intro w'; go_simp; with_reducible rfl); rotate_left; (simp only [Act.put, zA, zZ, zS, i64_w, i32_w]; rfl)
  refine pure_ (i := 5) (N := some 110) (v := ?_) (a' := ?_) (zF 10 55) rfl rfl (any_of HT_.out (by kernel_rfl)) (fun _ _ _ h => h) (Or.inl ⟨by rfl, ?_⟩) ?_ ?_
  rotate_left; (intro w'; go_simp; with_reducible rfl); rotate_left; (simp only [Act.put, zA, zZ, zS, i64_w, i32_w]; rfl)
  refine pure_ (i := 6) (N := some 111) (v := ?_) (a' := ?_) (zF 10 119) rfl rfl (any_of HT_.out (by kernel_rfl)) (fun _ _ _ h => h) (Or.inl ⟨by rfl, ?_⟩) ?_ ?_
  rotate_left; (intro w'; go_simp; with_reducible rfl); rotate_left; (simp only [Act.put, zA, zZ, zS, i64_w, i32_w]; rfl)
  refine take_ (i := 3) (N := some 108) (v := ?_) (a' := ?_) (zF 10 127) rfl rfl (take_ofW HT_.out HW_.out (by kernel_rfl)) (fun _ _ _ h => h) (Or.inl ⟨by rfl, ?_⟩) hHeld ?_ ?_
  rotate_left; (rintro w' ⟨s0, s1⟩; go_simp; with_reducible rfl); rotate_left; (simp only [Act.put, zA, zZ, zS, i64_w, i32_w]; rfl)
  refine take_ (i := 7) (N := some 112) (v := ?_) (a' := ?_) (zF 10 255) rfl rfl (take_ofW HT_.out HW_.out (by kernel_rfl)) (fun _ _ _ h => h) (Or.inl ⟨by rfl, ?_⟩) hHeld ?_ ?_
  rotate_left; (rintro w' ⟨s0, s1⟩; go_simp; with_reducible rfl); rotate_left; (simp only [Act.put, zA, zZ, zS, i64_w, i32_w]; rfl)
  refine pure_ (i := 8) (N := some 113) (v := ?_) (a' := ?_) (zF 10 511) rfl rfl (any_of HT_.out (by kernel_rfl)) (fun _ _ _ h => h) (Or.inl ⟨by rfl, ?_⟩) ?_ ?_
  rotate_left; (intro w'; go_simp; with_reducible rfl); rotate_left; (simp only [Act.put, zA, zZ, zS, i64_w, i32_w]; rfl)
  refine pure_ (i := 9) (N := some 114) (v := ?_) (a' := ?_) (zF 10 1023) rfl rfl (any_of HT_.out (by kernel_rfl)) (fun _ _ _ h => h) (Or.inl ⟨by rfl, ?_⟩) ?_ ?_
  rotate_left; (intro w'; go_simp; with_reducible rfl); rotate_left; (simp only [Act.put, zA, zZ, zS, i64_w, i32_w]; rfl)
  refine done_ (done_of HT_.out (by kernel_rfl)) ?_
  clear hHeld
  have c12 := H2d.out.c12
  have f12 := H2d.out.free 12
  have H9 := Aside0.mk (H2d.out.set_pl k2 (k2 : Int) rfl)
  go_wp2_with fail
  clear c12 f12 H2d
  generalize w2d.setCell ⟨g, 12, none⟩ (.int .i64 (k2 : Int)) = w9 at H9 ⊢
  replace H9 : Aside0 (PV hs B w0 w9 g gp gd n m ⟨ps, da, dl, k2, cmd, st⟩) := ⟨H9.out⟩
  refine start_ (n := 10) (S := (fun w' => w'.cell? ⟨g, 12, none⟩ = some (.int .i64 (k2 : Int)) ∧ w'.cell? ⟨g, 9, none⟩ = some (.slice (some ⟨gp, 0, none⟩) n n))) (ds := []) #[false, false, false, false, false, false, false, false, false, false] (by kernel_rfl) rfl rfl ⟨H9.out.c12, H9.out.c9⟩ (fun hHeld => ?_)
  refine with_tabW s32_tab s32_bits (fun HT_ HW_ => ?_)
  have H10d := Aside0.mk (show PV hs B w0 w9.drew g gp gd n m ⟨ps, da, dl, k2, cmd, st⟩ from H9.out.drew)
  clear H9
  generalize w9.drew = w10d at H10d hHeld ⊢
  refine pure_ (i := 0) (N := some 195) (v := ?_) (a' := ?_) (zF 10 1) rfl rfl (any_of HT_.out (by kernel_rfl)) (fun _ _ _ h => h) (Or.inl ⟨by rfl, ?_⟩) ?_ ?_
  rotate_left; (intro w'; go_simp; with_reducible rfl); rotate_left; (simp only [Act.put, zA, zZ, zS, i64_w, i32_w]; rfl)
  refine pure_ (i := 1) (N := some 196) (v := ?_) (a' := ?_) (zF 10 3) rfl rfl (any_of HT_.out (by kernel_rfl)) (fun _ _ _ h => h) (Or.inl ⟨by rfl, ?_⟩) ?_ ?_
  rotate_left; (intro w'; go_simp; with_reducible rfl); rotate_left; (simp only [Act.put, zA, zZ, zS, i64_w, i32_w]; rfl)
  refine pure_ (i := 2) (N := some 197) (v := ?_) (a' := ?_) (zF 10 7) rfl rfl (any_of HT_.out (by kernel_rfl)) (fun _ _ _ h => h) (Or.inl ⟨by rfl, ?_⟩) ?_ ?_
  rotate_left; (intro w'; go_simp; with_reducible rfl); rotate_left; (simp only [Act.put, zA, zZ, zS, i64_w, i32_w]; rfl)
  refine pure_ (i := 4) (N := some 199) (v := ?_) (a' := ?_) (zF 10 23) rfl rfl (any_of HT_.out (by kernel_rfl)) (fun _ _ _ h => h) (Or.inl ⟨by rfl, ?_⟩) ?_ ?_
  rotate_left; (intro w'; go_simp; with_reducible rfl); rotate_left; (simp only [Act.put, zA, zZ, zS, i64_w, i32_w]; rfl)
  refine pure_ (i := 5) (N := some 200) (v := ?_) (a' := ?_) (zF 10 55) rfl rfl (any_of HT_.out (by kernel_rfl)) (fun _ _ _ h => h) (Or.inl ⟨by rfl, ?_⟩) ?_ ?_
  rotate_left; (intro w'; go_simp; with_reducible rfl); rotate_left; (simp only [Act.put, zA, zZ, zS, i64_w, i32_w]; rfl)
  refine pure_ (i := 6) (N := some 201) (v := ?_) (a' := ?_) (zF 10 119) rfl rfl (any_of HT_.out (by kernel_rfl)) (fun _ _ _ h => h) (Or.inl ⟨by rfl, ?_⟩) ?_ ?_
  rotate_left; (intro w'; go_simp; with_reducible rfl); rotate_left; (simp only [Act.put, zA, zZ, zS, i64_w, i32_w]; rfl)
  refine take_ (i := 3) (N := some 198) (v := ?_) (a' := ?_) (zF 10 127) rfl rfl (take_ofW HT_.out HW_.out (by kernel_rfl)) (fun _ _ _ h => h) (Or.inl ⟨by rfl, ?_⟩) hHeld ?_ ?_
  rotate_left; (rintro w' ⟨s0, s1⟩; go_simp; with_reducible rfl); rotate_left; (simp only [Act.put, zA, zZ, zS, i64_w, i32_w]; rfl)
  refine take_ (i := 7) (N := some 202) (v := ?_) (a' := ?_) (zF 10 255) rfl rfl (take_ofW HT_.out HW_.out (by kernel_rfl)) (fun _ _ _ h => h) (Or.inl ⟨by rfl, ?_⟩) hHeld ?_ ?_
  rotate_left; (rintro w' ⟨s0, s1⟩; go_simp; with_reducible rfl); rotate_left; (simp only [Act.put, zA, zZ, zS, i64_w, i32_w]; rfl)
  refine pure_ (i := 8) (N := some 203) (v := ?_) (a' := ?_) (zF 10 511) rfl rfl (any_of HT_.out (by kernel_rfl)) (fun _ _ _ h => h) (Or.inl ⟨by rfl, ?_⟩) ?_ ?_
  rotate_left; (intro w'; go_simp; with_reducible rfl); rotate_left; (simp only [Act.put, zA, zZ, zS, i64_w, i32_w]; rfl)
  refine pure_ (i := 9) (N := some 204) (v := ?_) (a' := ?_) (zF 10 1023) rfl rfl (any_of HT_.out (by kernel_rfl)) (fun _ _ _ h => h) (Or.inl ⟨by rfl, ?_⟩) ?_ ?_
  rotate_left; (intro w'; go_simp; with_reducible rfl); rotate_left; (simp only [Act.put, zA, zZ, zS, i64_w, i32_w]; rfl)
  refine done_ (done_of HT_.out (by kernel_rfl)) ?_
  clear hHeld
  go_wp2_with fail
  refine start_ (n := 10) (S := (fun w' => w'.cell? ⟨g, 9, none⟩ = some (.slice (some ⟨gp, 0, none⟩) n n) ∧ w'.cell? ⟨g, 12, none⟩ = some (.int .i64 (k2 : Int)))) (ds := [9]) #[false, false, false, false, false, false, false, false, false, false] (by kernel_rfl) rfl rfl ⟨H10d.out.c9, H10d.out.c12⟩ (fun hHeld => ?_)
  refine with_tabW s33_tab s33_bits (fun HT_ HW_ => ?_)
  have H11d := Aside0.mk (show PV hs B w0 w10d.drew g gp gd n m ⟨ps, da, dl, k2, cmd, st⟩ from H10d.out.drew)
  clear H10d
  generalize w10d.drew = w11d at H11d hHeld ⊢
  refine pure_ (i := 0) (N := some 205) (v := ?_) (a' := ?_) (zF 10 1) rfl rfl (any_of HT_.out (by kernel_rfl)) (fun _ _ _ h => h) (Or.inl ⟨by rfl, ?_⟩) ?_ ?_
  rotate_left; (intro w'; go_simp; with_reducible rfl); rotate_left; (simp only [Act.put, zA, zZ, zS, i64_w, i32_w]; rfl)
  refine pure_ (i := 1) (N := some 206) (v := ?_) (a' := ?_) (zF 10 3) rfl rfl (any_of HT_.out (by kernel_rfl)) (fun _ _ _ h => h) (Or.inl ⟨by rfl, ?_⟩) ?_ ?_
  rotate_left; (intro w'; go_simp; with_reducible rfl); rotate_left; (simp only [Act.put, zA, zZ, zS, i64_w, i32_w]; rfl)
  refine pure_ (i := 2) (N := some 207) (v := ?_) (a' := ?_) (zF 10 7) rfl rfl (any_of HT_.out (by kernel_rfl)) (fun _ _ _ h => h) (Or.inl ⟨by rfl, ?_⟩) ?_ ?_
  rotate_left; (intro w'; go_simp; with_reducible rfl); rotate_left; (simp only [Act.put, zA, zZ, zS, i64_w, i32_w]; rfl)
  refine pure_ (i := 4) (N := some 209) (v := ?_) (a' := ?_) (zF 10 23) rfl rfl (any_of HT_.out (by kernel_rfl)) (fun _ _ _ h => h) (Or.inl ⟨by rfl, ?_⟩) ?_ ?_
  rotate_left; (intro w'; go_simp; with_reducible rfl); rotate_left; (simp only [Act.put, zA, zZ, zS, i64_w, i32_w]; rfl)
  refine pure_ (i := 5) (N := some 210) (v := ?_) (a' := ?_) (zF 10 55) rfl rfl (any_of HT_.out (by kernel_rfl)) (fun _ _ _ h => h) (Or.inl ⟨by rfl, ?_⟩) ?_ ?_
  rotate_left; (intro w'; go_simp; with_reducible rfl); rotate_left; (simp only [Act.put, zA, zZ, zS, i64_w, i32_w]; rfl)
  refine pure_ (i := 6) (N := some 211) (v := ?_) (a' := ?_) (zF 10 119) rfl rfl (any_of HT_.out (by kernel_rfl)) (fun _ _ _ h => h) (Or.inl ⟨by rfl, ?_⟩) ?_ ?_
  rotate_left; (intro w'; go_simp; with_reducible rfl); rotate_left; (simp only [Act.put, zA, zZ, zS, i64_w, i32_w]; rfl)
  refine take_ (i := 3) (N := some 208) (v := ?_) (a' := ?_) (zF 10 127) rfl rfl (take_ofW HT_.out HW_.out (by kernel_rfl)) (fun _ _ _ h => h) (Or.inl ⟨by rfl, ?_⟩) hHeld ?_ ?_
  rotate_left; (rintro w' ⟨s0, s1⟩; go_simp; with_reducible rfl); rotate_left; (simp only [Act.put, zA, zZ, zS, i64_w, i32_w]; rfl)
  refine take_ (i := 7) (N := some 212) (v := ?_) (a' := ?_) (zF 10 255) rfl rfl (take_ofW HT_.out HW_.out (by kernel_rfl)) (fun _ _ _ h => h) (Or.inl ⟨by rfl, ?_⟩) hHeld ?_ ?_
  rotate_left; (rintro w' ⟨s0, s1⟩; go_simp; with_reducible rfl); rotate_left; (simp only [Act.put, zA, zZ, zS, i64_w, i32_w]; rfl)
  refine pure_ (i := 8) (N := some 213) (v := ?_) (a' := ?_) (zF 10 511) rfl rfl (any_of HT_.out (by kernel_rfl)) (fun _ _ _ h => h) (Or.inl ⟨by rfl, ?_⟩) ?_ ?_
  rotate_left; (intro w'; go_simp; with_reducible rfl); rotate_left; (simp only [Act.put, zA, zZ, zS, i64_w, i32_w]; rfl)
  refine last_ (i := 9) (N := none) (zF 10 1023) rfl rfl (one_of HT_.out (by kernel_rfl)) (by decide) (fun K hK => ?_)
  have q11d : w11d.cell? ⟨gp, k2, none⟩ = some (.int .i64 (ps.getD k2 0)) := H11d.out.cp k2 HM.out
  have qf11d := H11d.out.freep k2
  refine skip_ (w1 := ?_) (by rfl) rfl ?_ ?_
  rotate_left
  · go_simp
    with_reducible rfl
  refine hK.out _ _ ?_
  clear hK K
  clear q11d qf11d
  refine done_ (done_of HT_.out (by kernel_rfl)) ?_
  clear hHeld
  have H11 := Aside0.mk (show PV hs B w0 (w11d.setCell ⟨gp, k2, none⟩ (.int .i64 2147483647)) g gp gd n m ⟨ps.set k2 2147483647, da, dl, k2, cmd, st⟩ from H11d.out.set_p k2 2147483647)
  clear H11d
  generalize w11d.setCell ⟨gp, k2, none⟩ (.int .i64 2147483647) = w11 at H11 ⊢
  go_wp2
  go_end0
  refine ⟨rfl, ?_⟩
  have h_ := H11.out
  rw [HK2.out] at h_
  exact h_
set_option maxHeartbeats 8000000 in
set_option maxRecDepth 100000 in
theorem pa_semi_last (hs : Nat → Value) (B : Nat) (w0 w : World) (g gp gd n m : Nat) (p : PM) (h : PV hs B w0 w g gp gd n m p) (st2 : Int) (hpl : p.pl < n) (hmo : n ≤ p.pl + 1) (hbig : n ≤ 1000000) :
    Calls Tryd.prog 68 #[.pointer (some ⟨g, 0, none⟩), .int .u8 8, .int .u8 st2, .int .u8 59] w fun e w' => e = .returned (.tuple #[]) ∧ PV hs B w0 w' g gp gd n m (⟨p.ps, p.da, p.dl, p.pl + 1, p.cmd, p.st⟩) := by
  obtain ⟨ps, da, dl, pl, cmd, st⟩ := p
  replace hpl : pl < n := hpl
  replace hmo : n ≤ pl + 1 := hmo
  replace hbig : n ≤ 1000000 := hbig
  obtain ⟨w1, hw1⟩ : ∃ w1, w1 = w := ⟨_, rfl⟩
  rw [← hw1]
  have H1 := Aside0.mk (show PV hs B w0 w1 g gp gd n m ⟨ps, da, dl, pl, cmd, st⟩ by rw [hw1]; exact h)
  clear hw1 h
  have HPL := Aside0.mk hpl
  have tn : decide ((n : Int) ≤ (pl : Int)) = false := decide_eq_false (by omega)
  have p0 : (0 : Int) ≤ (pl : Int) := by omega
  have p1 : (pl : Int) < (n : Int) := by omega
  obtain ⟨k2, hk2⟩ : ∃ k2, k2 = pl + 1 := ⟨_, rfl⟩
  have HK2 := Aside0.mk hk2
  have hwr : wrap64 ((pl : Int) + 1) = (k2 : Int) := by have := hbig; unfold wrap64; omega
  have tm : decide ((k2 : Int) < (n : Int)) = false := decide_eq_false (by omega)
  have tmn : ¬ k2 < n := by omega
  clear hpl hmo hbig hk2
  go_enter Tryd.func68, Tryd.ntmps68
  go_wp2_with fail
  refine start_ (n := 10) (S := (fun w' => w'.cell? ⟨g, 9, none⟩ = some (.slice (some ⟨gp, 0, none⟩) n n) ∧ w'.cell? ⟨g, 12, none⟩ = some (.int .i64 (pl : Int)))) (ds := []) #[false, false, false, false, false, false, false, false, false, false] (by kernel_rfl) rfl rfl ⟨H1.out.c9, H1.out.c12⟩ (fun hHeld => ?_)
  refine with_tabW s22_tab s22_bits (fun HT_ HW_ => ?_)
  have H2d := Aside0.mk (show PV hs B w0 w1.drew g gp gd n m ⟨ps, da, dl, pl, cmd, st⟩ from H1.out.drew)
  clear H1
  generalize w1.drew = w2d at H2d hHeld ⊢
  refine pure_ (i := 0) (N := some 105) (v := ?_) (a' := ?_) (zF 10 1) rfl rfl (any_of HT_.out (by kernel_rfl)) (fun _ _ _ h => h) (Or.inl ⟨by rfl, ?_⟩) ?_ ?_
  rotate_left; (intro w'; go_simp; with_reducible rfl); rotate_left; (simp only [Act.put, zA, zZ, zS, i64_w, i32_w]; rfl)
  refine pure_ (i := 1) (N := some 106) (v := ?_) (a' := ?_) (zF 10 3) rfl rfl (any_of HT_.out (by kernel_rfl)) (fun _ _ _ h => h) (Or.inl ⟨by rfl, ?_⟩) ?_ ?_
  rotate_left; (intro w'; go_simp; with_reducible rfl); rotate_left; (simp only [Act.put, zA, zZ, zS, i64_w, i32_w]; rfl)
  refine pure_ (i := 2) (N := some 107) (v := ?_) (a' := ?_) (zF 10 7) rfl rfl (any_of HT_.out (by kernel_rfl)) (fun _ _ _ h => h) (Or.inl ⟨by rfl, ?_⟩) ?_ ?_
  rotate_left; (intro w'; go_simp; with_reducible rfl); rotate_left; (simp only [Act.put, zA, zZ, zS, i64_w, i32_w]; rfl)
  refine pure_ (i := 4) (N := some 109) (v := ?_) (a' := ?_) (zF 10 23) rfl rfl (any_of HT_.out (by kernel_rfl)) (fun _ _ _ h => h) (Or.inl ⟨by rfl, ?_⟩) ?_ ?_
  rotate_left; (intro w'; go_simp; with_reducible rfl); rotate_left; (simp only [Act.put, zA, zZ, zS, i64_w, i32_w]; rfl)
  refine pure_ (i := 5) (N := some 110) (v := ?_) (a' := ?_) (zF 10 55) rfl rfl (any_of HT_.out (by kernel_rfl)) (fun _ _ _ h => h) (Or.inl ⟨by rfl, ?_⟩) ?_ ?_
  rotate_left; (intro w'; go_simp; with_reducible rfl); rotate_left; (simp only [Act.put, zA, zZ, zS, i64_w, i32_w]; rfl)
  refine pure_ (i := 6) (N := some 111) (v := ?_) (a' := ?_) (zF 10 119) rfl rfl (any_of HT_.out (by kernel_rfl)) (fun _ _ _ h => h) (Or.inl ⟨by rfl, ?_⟩) ?_ ?_
  rotate_left; (intro w'; go_simp; with_reducible rfl); rotate_left; (simp only [Act.put, zA, zZ, zS, i64_w, i32_w]; rfl)
  refine take_ (i := 3) (N := some 108) (v := ?_) (a' := ?_) (zF 10 127) rfl rfl (take_ofW HT_.out HW_.out (by kernel_rfl)) (fun _ _ _ h => h) (Or.inl ⟨by rfl, ?_⟩) hHeld ?_ ?_
  rotate_left; (rintro w' ⟨s0, s1⟩; go_simp; with_reducible rfl); rotate_left; (simp only [Act.put, zA, zZ, zS, i64_w, i32_w]; rfl)
  refine take_ (i := 7) (N := some 112) (v := ?_) (a' := ?_) (zF 10 255) rfl rfl (take_ofW HT_.out HW_.out (by kernel_rfl)) (fun _ _ _ h => h) (Or.inl ⟨by rfl, ?_⟩) hHeld ?_ ?_
  rotate_left; (rintro w' ⟨s0, s1⟩; go_simp; with_reducible rfl); rotate_left; (simp only [Act.put, zA, zZ, zS, i64_w, i32_w]; rfl)
  refine pure_ (i := 8) (N := some 113) (v := ?_) (a' := ?_) (zF 10 511) rfl rfl (any_of HT_.out (by kernel_rfl)) (fun _ _ _ h => h) (Or.inl ⟨by rfl, ?_⟩) ?_ ?_
  rotate_left; (intro w'; go_simp; with_reducible rfl); rotate_left; (simp only [Act.put, zA, zZ, zS, i64_w, i32_w]; rfl)
  refine pure_ (i := 9) (N := some 114) (v := ?_) (a' := ?_) (zF 10 1023) rfl rfl (any_of HT_.out (by kernel_rfl)) (fun _ _ _ h => h) (Or.inl ⟨by rfl, ?_⟩) ?_ ?_
  rotate_left; (intro w'; go_simp; with_reducible rfl); rotate_left; (simp only [Act.put, zA, zZ, zS, i64_w, i32_w]; rfl)
  refine done_ (done_of HT_.out (by kernel_rfl)) ?_
  clear hHeld
  have c12 := H2d.out.c12
  have f12 := H2d.out.free 12
  have H9 := Aside0.mk (H2d.out.set_pl k2 (k2 : Int) rfl)
  go_wp2_with fail
  clear c12 f12 H2d
  generalize w2d.setCell ⟨g, 12, none⟩ (.int .i64 (k2 : Int)) = w9 at H9 ⊢
  replace H9 : Aside0 (PV hs B w0 w9 g gp gd n m ⟨ps, da, dl, k2, cmd, st⟩) := ⟨H9.out⟩
  refine start_ (n := 10) (S := (fun w' => w'.cell? ⟨g, 12, none⟩ = some (.int .i64 (k2 : Int)) ∧ w'.cell? ⟨g, 9, none⟩ = some (.slice (some ⟨gp, 0, none⟩) n n))) (ds := []) #[false, false, false, false, false, false, false, false, false, false] (by kernel_rfl) rfl rfl ⟨H9.out.c12, H9.out.c9⟩ (fun hHeld => ?_)
  refine with_tabW s32_tab s32_bits (fun HT_ HW_ => ?_)
  have H10d := Aside0.mk (show PV hs B w0 w9.drew g gp gd n m ⟨ps, da, dl, k2, cmd, st⟩ from H9.out.drew)
  clear H9
  generalize w9.drew = w10d at H10d hHeld ⊢
  refine pure_ (i := 0) (N := some 195) (v := ?_) (a' := ?_) (zF 10 1) rfl rfl (any_of HT_.out (by kernel_rfl)) (fun _ _ _ h => h) (Or.inl ⟨by rfl, ?_⟩) ?_ ?_
  rotate_left; (intro w'; go_simp; with_reducible rfl); rotate_left; (simp only [Act.put, zA, zZ, zS, i64_w, i32_w]; rfl)
  refine pure_ (i := 1) (N := some 196) (v := ?_) (a' := ?_) (zF 10 3) rfl rfl (any_of HT_.out (by kernel_rfl)) (fun _ _ _ h => h) (Or.inl ⟨by rfl, ?_⟩) ?_ ?_
  rotate_left; (intro w'; go_simp; with_reducible rfl); rotate_left; (simp only [Act.put, zA, zZ, zS, i64_w, i32_w]; rfl)
  refine pure_ (i := 2) (N := some 197) (v := ?_) (a' := ?_) (zF 10 7) rfl rfl (any_of HT_.out (by kernel_rfl)) (fun _ _ _ h => h) (Or.inl ⟨by rfl, ?_⟩) ?_ ?_
  rotate_left; (intro w'; go_simp; with_reducible rfl); rotate_left; (simp only [Act.put, zA, zZ, zS, i64_w, i32_w]; rfl)
  refine pure_ (i := 4) (N := some 199) (v := ?_) (a' := ?_) (zF 10 23) rfl rfl (any_of HT_.out (by kernel_rfl)) (fun _ _ _ h => h) (Or.inl ⟨by rfl, ?_⟩) ?_ ?_
  rotate_left; (intro w'; go_simp; with_reducible rfl); rotate_left; (simp only [Act.put, zA, zZ, zS, i64_w, i32_w]; rfl)
  refine pure_ (i := 5) (N := some 200) (v := ?_) (a' := ?_) (zF 10 55) rfl rfl (any_of HT_.out (by kernel_rfl)) (fun _ _ _ h => h) (Or.inl ⟨by rfl, ?_⟩) ?_ ?_
  rotate_left; (intro w'; go_simp; with_reducible rfl); rotate_left; (simp only [Act.put, zA, zZ, zS, i64_w, i32_w]; rfl)
  refine pure_ (i := 6) (N := some 201) (v := ?_) (a' := ?_) (zF 10 119) rfl rfl (any_of HT_.out (by kernel_rfl)) (fun _ _ _ h => h) (Or.inl ⟨by rfl, ?_⟩) ?_ ?_
  rotate_left; (intro w'; go_simp; with_reducible rfl); rotate_left; (simp only [Act.put, zA, zZ, zS, i64_w, i32_w]; rfl)
  refine take_ (i := 3) (N := some 198) (v := ?_) (a' := ?_) (zF 10 127) rfl rfl (take_ofW HT_.out HW_.out (by kernel_rfl)) (fun _ _ _ h => h) (Or.inl ⟨by rfl, ?_⟩) hHeld ?_ ?_
  rotate_left; (rintro w' ⟨s0, s1⟩; go_simp; with_reducible rfl); rotate_left; (simp only [Act.put, zA, zZ, zS, i64_w, i32_w]; rfl)
  refine take_ (i := 7) (N := some 202) (v := ?_) (a' := ?_) (zF 10 255) rfl rfl (take_ofW HT_.out HW_.out (by kernel_rfl)) (fun _ _ _ h => h) (Or.inl ⟨by rfl, ?_⟩) hHeld ?_ ?_
  rotate_left; (rintro w' ⟨s0, s1⟩; go_simp; with_reducible rfl); rotate_left; (simp only [Act.put, zA, zZ, zS, i64_w, i32_w]; rfl)
  refine pure_ (i := 8) (N := some 203) (v := ?_) (a' := ?_) (zF 10 511) rfl rfl (any_of HT_.out (by kernel_rfl)) (fun _ _ _ h => h) (Or.inl ⟨by rfl, ?_⟩) ?_ ?_
  rotate_left; (intro w'; go_simp; with_reducible rfl); rotate_left; (simp only [Act.put, zA, zZ, zS, i64_w, i32_w]; rfl)
  refine pure_ (i := 9) (N := some 204) (v := ?_) (a' := ?_) (zF 10 1023) rfl rfl (any_of HT_.out (by kernel_rfl)) (fun _ _ _ h => h) (Or.inl ⟨by rfl, ?_⟩) ?_ ?_
  rotate_left; (intro w'; go_simp; with_reducible rfl); rotate_left; (simp only [Act.put, zA, zZ, zS, i64_w, i32_w]; rfl)
  refine done_ (done_of HT_.out (by kernel_rfl)) ?_
  clear hHeld
  go_wp2
  go_end0
  refine ⟨rfl, ?_⟩
  have h_ := H10d.out
  rw [HK2.out] at h_
  exact h_
set_option maxHeartbeats 8000000 in
set_option maxRecDepth 100000 in
theorem pa_full (hs : Nat → Value) (B : Nat) (w0 w : World) (g gp gd n m : Nat) (p : PM) (h : PV hs B w0 w g gp gd n m p) (st2 b : Int) (hb0 : 0 ≤ b) (hb1 : b < 256) (hpl : n ≤ p.pl) :
    Calls Tryd.prog 68 #[.pointer (some ⟨g, 0, none⟩), .int .u8 8, .int .u8 st2, .int .u8 b] w fun e w' => e = .returned (.tuple #[]) ∧ PV hs B w0 w' g gp gd n m (p) := by
  obtain ⟨ps, da, dl, pl, cmd, st⟩ := p
  replace hpl : n ≤ pl := hpl
  obtain ⟨w1, hw1⟩ : ∃ w1, w1 = w := ⟨_, rfl⟩
  rw [← hw1]
  have H1 := Aside0.mk (show PV hs B w0 w1 g gp gd n m ⟨ps, da, dl, pl, cmd, st⟩ by rw [hw1]; exact h)
  clear hw1 h
  have tn : decide ((n : Int) ≤ (pl : Int)) = true := decide_eq_true (by omega)
  clear hb0 hb1
  go_enter Tryd.func68, Tryd.ntmps68
  go_wp2_with fail
  refine start_ (n := 10) (S := (fun w' => w'.cell? ⟨g, 9, none⟩ = some (.slice (some ⟨gp, 0, none⟩) n n) ∧ w'.cell? ⟨g, 12, none⟩ = some (.int .i64 (pl : Int)))) (ds := []) #[false, false, false, false, false, false, false, false, false, false] (by kernel_rfl) rfl rfl ⟨H1.out.c9, H1.out.c12⟩ (fun hHeld => ?_)
  refine with_tabW s22_tab s22_bits (fun HT_ HW_ => ?_)
  have H2d := Aside0.mk (show PV hs B w0 w1.drew g gp gd n m ⟨ps, da, dl, pl, cmd, st⟩ from H1.out.drew)
  clear H1
  generalize w1.drew = w2d at H2d hHeld ⊢
  refine pure_ (i := 0) (N := some 105) (v := ?_) (a' := ?_) (zF 10 1) rfl rfl (any_of HT_.out (by kernel_rfl)) (fun _ _ _ h => h) (Or.inl ⟨by rfl, ?_⟩) ?_ ?_
  rotate_left; (intro w'; go_simp; with_reducible rfl); rotate_left; (simp only [Act.put, zA, zZ, zS, i64_w, i32_w]; rfl)
  refine pure_ (i := 1) (N := some 106) (v := ?_) (a' := ?_) (zF 10 3) rfl rfl (any_of HT_.out (by kernel_rfl)) (fun _ _ _ h => h) (Or.inl ⟨by rfl, ?_⟩) ?_ ?_
  rotate_left; (intro w'; go_simp; with_reducible rfl); rotate_left; (simp only [Act.put, zA, zZ, zS, i64_w, i32_w]; rfl)
  refine pure_ (i := 2) (N := some 107) (v := ?_) (a' := ?_) (zF 10 7) rfl rfl (any_of HT_.out (by kernel_rfl)) (fun _ _ _ h => h) (Or.inl ⟨by rfl, ?_⟩) ?_ ?_
  rotate_left; (intro w'; go_simp; with_reducible rfl); rotate_left; (simp only [Act.put, zA, zZ, zS, i64_w, i32_w]; rfl)
  refine pure_ (i := 4) (N := some 109) (v := ?_) (a' := ?_) (zF 10 23) rfl rfl (any_of HT_.out (by kernel_rfl)) (fun _ _ _ h => h) (Or.inl ⟨by rfl, ?_⟩) ?_ ?_
  rotate_left; (intro w'; go_simp; with_reducible rfl); rotate_left; (simp only [Act.put, zA, zZ, zS, i64_w, i32_w]; rfl)
  refine pure_ (i := 5) (N := some 110) (v := ?_) (a' := ?_) (zF 10 55) rfl rfl (any_of HT_.out (by kernel_rfl)) (fun _ _ _ h => h) (Or.inl ⟨by rfl, ?_⟩) ?_ ?_
  rotate_left; (intro w'; go_simp; with_reducible rfl); rotate_left; (simp only [Act.put, zA, zZ, zS, i64_w, i32_w]; rfl)
  refine pure_ (i := 6) (N := some 111) (v := ?_) (a' := ?_) (zF 10 119) rfl rfl (any_of HT_.out (by kernel_rfl)) (fun _ _ _ h => h) (Or.inl ⟨by rfl, ?_⟩) ?_ ?_
  rotate_left; (intro w'; go_simp; with_reducible rfl); rotate_left; (simp only [Act.put, zA, zZ, zS, i64_w, i32_w]; rfl)
  refine take_ (i := 3) (N := some 108) (v := ?_) (a' := ?_) (zF 10 127) rfl rfl (take_ofW HT_.out HW_.out (by kernel_rfl)) (fun _ _ _ h => h) (Or.inl ⟨by rfl, ?_⟩) hHeld ?_ ?_
  rotate_left; (rintro w' ⟨s0, s1⟩; go_simp; with_reducible rfl); rotate_left; (simp only [Act.put, zA, zZ, zS, i64_w, i32_w]; rfl)
  refine take_ (i := 7) (N := some 112) (v := ?_) (a' := ?_) (zF 10 255) rfl rfl (take_ofW HT_.out HW_.out (by kernel_rfl)) (fun _ _ _ h => h) (Or.inl ⟨by rfl, ?_⟩) hHeld ?_ ?_
  rotate_left; (rintro w' ⟨s0, s1⟩; go_simp; with_reducible rfl); rotate_left; (simp only [Act.put, zA, zZ, zS, i64_w, i32_w]; rfl)
  refine pure_ (i := 8) (N := some 113) (v := ?_) (a' := ?_) (zF 10 511) rfl rfl (any_of HT_.out (by kernel_rfl)) (fun _ _ _ h => h) (Or.inl ⟨by rfl, ?_⟩) ?_ ?_
  rotate_left; (intro w'; go_simp; with_reducible rfl); rotate_left; (simp only [Act.put, zA, zZ, zS, i64_w, i32_w]; rfl)
  refine pure_ (i := 9) (N := some 114) (v := ?_) (a' := ?_) (zF 10 1023) rfl rfl (any_of HT_.out (by kernel_rfl)) (fun _ _ _ h => h) (Or.inl ⟨by rfl, ?_⟩) ?_ ?_
  rotate_left; (intro w'; go_simp; with_reducible rfl); rotate_left; (simp only [Act.put, zA, zZ, zS, i64_w, i32_w]; rfl)
  refine done_ (done_of HT_.out (by kernel_rfl)) ?_
  clear hHeld
  go_wp2
  go_end0
  exact ⟨rfl, H2d.out⟩
end Go.Proofs.YtmpmfdghdaofhaaDoor.Pm

namespace Go.Proofs.YtmpmfdghdaofhaaDoor.Pm
set_option linter.unusedVariables false
set_option linter.unusedSimpArgs false
open Go Go.RowKit Go.Proofs.YtmpmfdghdaofhaaDoorW.PrintWords Go.Proofs.YtmpmfdghdaofhaaDoorW.PrintLast Go.Proofs.YtmpmfdghdaofhaaDoorW.PrintMore
def pnum : List Int → Int → Int
  | [], c => c
  | d :: l, c => if d < 48 ∨ 57 < d then c else pnum l (wrap64 (wrap64 ((if c = 2147483647 then 0 else c) * 10) + (d - 48)))
set_option maxHeartbeats 8000000 in
set_option maxRecDepth 100000 in
theorem parse_ (hs : Nat → Value) (B : Nat) (w0 w : World) (g gp gd n m : Nat) (p : PM) (h : PV hs B w0 w g gp gd n m p) (hdl : p.dl ≤ m) (hbig : m ≤ 1000000) :
    Calls Tryd.prog 72 #[.pointer (some ⟨g, 0, none⟩)] w fun e w' => e = .returned (.tuple #[]) ∧ PV hs B w0 w' g gp gd n m { p with cmd := pnum (p.da.take p.dl) p.cmd } := by
  obtain ⟨ps, da, dl, pl, cmd, st⟩ := p
  replace hdl : dl ≤ m := hdl
  have hml : da.length = m := h.hm
  obtain ⟨R, hR⟩ : ∃ R, R = pnum (da.take dl) cmd := ⟨_, rfl⟩
  suffices hh : Calls Tryd.prog 72 #[.pointer (some ⟨g, 0, none⟩)] w fun e w' => e = .returned (.tuple #[]) ∧ PV hs B w0 w' g gp gd n m ⟨ps, da, dl, pl, R, st⟩ by rw [hR] at hh; exact hh
  have HR := Aside0.mk hR
  have H0 := Aside0.mk h
  have HML := Aside0.mk hml
  have HDL := Aside0.mk hdl
  have HBG := Aside0.mk hbig
  have c10 := h.c10
  have c11 := h.c11
  have tdl : decide (0 ≤ (dl : Int)) = true := decide_eq_true (by omega)
  clear h hml hdl hbig hR
  go_enter Tryd.func72, Tryd.ntmps72
  go_wp2_with fail
  go_loopw [20] (fun v wr => ∃ (J : Int) (k : Nat) (c : Int), v = .int .i64 J ∧ Aside0 (J = (k : Int)) ∧ Aside0 (k ≤ dl) ∧ Aside0 (PV hs B w0 wr g gp gd n m ⟨ps, da, dl, pl, c, st⟩) ∧ Aside0 (pnum ((da.take dl).drop k) c = R)) (fun v _ => dl - (intOf v).toNat)
  case atStart => exact ⟨0, 0, cmd, rfl, ⟨rfl⟩, ⟨Nat.zero_le _⟩, H0, ⟨HR.out.symm⟩⟩
  case round =>
    clear c10 c11 H0
    obtain ⟨J, k, c, rfl, HJ, HK, H1, HP⟩ := hrel
    have hwr : wrap64 (J + 1) = J + 1 := by have := HJ.out; have := HK.out; have := HDL.out; have := HBG.out; unfold wrap64; omega
    by_cases hlt : k < dl
    · have hj := HJ.out
      have tlt : decide (J < (dl : Int)) = true := decide_eq_true (by omega)
      have p0 : 0 ≤ J := by omega
      have p1 : J < (m : Int) := by have := HDL.out; omega
      obtain rfl : J = (k : Int) := hj
      obtain ⟨d, hd⟩ : ∃ d, d = da.getD k 0 := ⟨_, rfl⟩
      have hcd := H1.out.cd k (by have := HDL.out; omega)
      replace hcd : wr.cell? ⟨gd, k, none⟩ = some (.int .u8 d) := by rw [hd]; exact hcd
      have hdr : (da.take dl).drop k = d :: (da.take dl).drop (k + 1) := by
        have hl : k < (da.take dl).length := by rw [List.length_take, HML.out]; have := HDL.out; omega
        rw [List.drop_eq_getElem_cons hl, List.getElem_take, hd, List.getD_eq_getElem?_getD, List.getElem?_eq_getElem (by rw [HML.out]; have := HDL.out; omega)]
        rfl
      have c10 := H1.out.c10
      clear hd
      by_cases hdig : d < 48 ∨ 57 < d
      · have hfin : c = R := by
          have h_ := HP.out
          rw [hdr] at h_
          unfold pnum at h_
          rw [if_pos hdig] at h_
          exact h_
        have HF := Aside0.mk hfin
        clear hfin
        by_cases hd1 : d < 48
        · have t1 : decide (d < 48) = true := decide_eq_true hd1
          clear hdig hd1 hdr
          go_wp2
          go_end0
          exact ⟨rfl, by have h_ := H1.out; rw [HF.out] at h_; exact h_⟩
        · have t1 : decide (d < 48) = false := decide_eq_false hd1
          have t2 : decide (57 < d) = true := decide_eq_true (by omega)
          clear hdig hd1 hdr
          go_wp2
          go_end0
          exact ⟨rfl, by have h_ := H1.out; rw [HF.out] at h_; exact h_⟩
      · have t1 : decide (d < 48) = false := decide_eq_false (by omega)
        have t2 : decide (57 < d) = false := decide_eq_false (by omega)
        by_cases hc : c = 2147483647
        · have tc : (c == 2147483647) = true := by simpa using hc
          have A1 := H1.out.set_cmd 0
          have a13 := H1.out.c13
          have af := H1.out.free 13
          have A2 := A1.set_cmd 0
          have A3 := Aside0.mk (A2.set_cmd (d - 48))
          have b13 := A1.c13
          have bf := A1.free 13
          have e13 := A2.c13
          have ef := A2.free 13
          clear A1 A2
          go_wp2_with fail
          go_roundw
          case rel =>
            refine ⟨_, k + 1, (d - 48), rfl, ⟨by first | rfl | (rw [hwr]; rfl)⟩, ⟨by omega⟩, ⟨A3.out⟩, ⟨?_⟩⟩
            have h_ := HP.out
            rw [hdr] at h_
            unfold pnum at h_
            rw [if_neg (by omega), if_pos hc, show wrap64 (wrap64 (0 * 10) + (d - 48)) = d - 48 by unfold wrap64; omega] at h_
            exact h_
          case measure =>
            (try rw [hwr])
            simp [intOf]
            omega
        · have tc : (c == 2147483647) = false := by simpa using hc
          have A1 := H1.out
          have a13 := H1.out.c13
          have af := H1.out.free 13
          have A2 := A1.set_cmd (wrap64 (c * 10))
          have A3 := Aside0.mk (A2.set_cmd (wrap64 ((wrap64 (c * 10)) + (d - 48))))
          have e13 := A2.c13
          have ef := A2.free 13
          clear A1 A2
          go_wp2_with fail
          go_roundw
          case rel =>
            refine ⟨_, k + 1, (wrap64 ((wrap64 (c * 10)) + (d - 48))), rfl, ⟨by first | rfl | (rw [hwr]; rfl)⟩, ⟨by omega⟩, ⟨A3.out⟩, ⟨?_⟩⟩
            have h_ := HP.out
            rw [hdr] at h_
            unfold pnum at h_
            rw [if_neg (by omega), if_neg hc] at h_
            exact h_
          case measure =>
            (try rw [hwr])
            simp [intOf]
            omega
    · have tlt : decide (J < (dl : Int)) = false := decide_eq_false (by have := HJ.out; omega)
      have hfin : c = R := by
        have h_ := HP.out
        rw [List.drop_eq_nil_of_le (by rw [List.length_take]; omega)] at h_
        exact h_
      have HF := Aside0.mk hfin
      clear hfin
      go_wp2
      go_end0
      exact ⟨rfl, by have h_ := H1.out; rw [HF.out] at h_; exact h_⟩
end Go.Proofs.YtmpmfdghdaofhaaDoor.Pm

namespace Go.Proofs.YtmpmfdghdaofhaaDoor.Pm
set_option linter.unusedVariables false
set_option linter.unusedSimpArgs false
open Go Go.RowKit Go.Proofs.YtmpmfdghdaofhaaDoorW.PrintWords Go.Proofs.YtmpmfdghdaofhaaDoorW.PrintLast Go.Proofs.YtmpmfdghdaofhaaDoorW.PrintMore
def u48T : Bool × List (List Nat × List Nat) := (true, [([], []), ([0], [0]), ([1], [1]), ([2], [2]), ([], []), ([4], [4]), ([5], [5]), ([6], [6]), ([7], [7]), ([3, 8], [3, 8])])
def u48B : List Nat := [0, 1, 3, 7, 0, 16, 48, 112, 240, 511]
theorem u48_tab : rtab .any (opsOf Tryd.f68 48) = u48T := by kernel_rfl
theorem u48_bits : waitsOk u48T.2 u48B = true := by kernel_rfl
def u49T : Bool × List (List Nat × List Nat) := (true, [([], []), ([0], [0]), ([1], [1]), ([2], [2]), ([], []), ([4], [4]), ([5], [5]), ([6], [6]), ([], []), ([3, 7, 0, 1, 2, 3, 4, 5, 6, 7, 8], [3, 7]), ([9, 8, 0, 1, 2, 3, 4, 5, 6, 7, 8], [8, 9])])
def u49B : List Nat := [0, 1, 3, 7, 0, 16, 48, 112, 0, 511, 1023]
theorem u49_tab : rtab .any (opsOf Tryd.f68 49) = u49T := by kernel_rfl
theorem u49_bits : waitsOk u49T.2 u49B = true := by kernel_rfl
def putc (p : PM) (b : Int) : Int := if p.st = 10 ∧ b = 59 ∧ p.cmd = 2147483647 then pnum (p.da.take p.dl) p.cmd else p.cmd
def pput (p : PM) (b : Int) : PM := if p.dl < p.da.length then ⟨p.ps, p.da.set p.dl b, p.dl + 1, p.pl, putc p b, p.st⟩ else ⟨p.ps, p.da, p.dl, p.pl, putc p b, p.st⟩
set_option maxHeartbeats 8000000 in
set_option maxRecDepth 100000 in
theorem pa_put (hs : Nat → Value) (B : Nat) (w0 w : World) (g gp gd n m : Nat) (p : PM) (h : PV hs B w0 w g gp gd n m p) (st2 b : Int) (hb0 : 0 ≤ b) (hb1 : b < 256) (hdl : p.dl ≤ m) (hbig : m ≤ 1000000) :
    Calls Tryd.prog 68 #[.pointer (some ⟨g, 0, none⟩), .int .u8 7, .int .u8 st2, .int .u8 b] w fun e w' => e = .returned (.tuple #[]) ∧ PV hs B w0 w' g gp gd n m (pput p b) := by
  obtain ⟨ps, da, dl, pl, cmd, st⟩ := p
  replace hdl : dl ≤ m := hdl
  have hml : da.length = m := h.hm
  obtain ⟨c2, hc2⟩ : ∃ c2, c2 = putc ⟨ps, da, dl, pl, cmd, st⟩ b := ⟨_, rfl⟩
  have HC2 := Aside0.mk hc2
  have HML := Aside0.mk hml
  have HDL := Aside0.mk hdl
  have HBG := Aside0.mk hbig
  clear hc2 hml hdl hbig hb0 hb1
  obtain ⟨w1, hw1⟩ : ∃ w1, w1 = w := ⟨_, rfl⟩
  rw [← hw1]
  have H1 := Aside0.mk (show PV hs B w0 w1 g gp gd n m ⟨ps, da, dl, pl, cmd, st⟩ by rw [hw1]; exact h)
  clear hw1 h
  go_enter Tryd.func68, Tryd.ntmps68
  have c14 := H1.out.c14
  go_upto_block 1 with (fail)
  clear c14
  go_cut [] from 269 to 281 (fun wc => Aside0 (PV hs B w0 wc g gp gd n m ⟨ps, da, dl, pl, c2, st⟩))
  case first =>
    have c13 := H1.out.c13
    by_cases hst : st = 10
    · subst hst
      by_cases hb : b = 59
      · have tb : (b == 59) = true := by simpa using hb
        by_cases hc : cmd = 2147483647
        · have tc : (cmd == 2147483647) = true := by simpa using hc
          have hcc : c2 = pnum (da.take dl) cmd := by rw [HC2.out]; unfold putc; rw [if_pos ⟨rfl, hb, hc⟩]
          have HCC := Aside0.mk hcc
          clear hcc hb hc
          go_wp2_with fail
          refine (parse_ hs B w0 w1 g gp gd n m ⟨ps, da, dl, pl, cmd, 10⟩ H1.out HDL.out HBG.out).mono ?_
          rintro e w2 ⟨rfl, h2⟩
          have H2 := Aside0.mk h2
          clear h2
          go_wp2
          go_meet
          case rel => exact ⟨by rw [HCC.out]; exact H2.out⟩
        · have tc : (cmd == 2147483647) = false := by simpa using hc
          have hcc : c2 = cmd := by rw [HC2.out]; unfold putc; rw [if_neg (fun h => hc h.2.2)]
          have HCC := Aside0.mk hcc
          clear hcc hb hc
          go_wp2
          go_meet
          case rel => exact ⟨by rw [HCC.out]; exact H1.out⟩
      · have tb : (b == 59) = false := by simpa using hb
        have hcc : c2 = cmd := by rw [HC2.out]; unfold putc; rw [if_neg (fun h => hb h.2.1)]
        have HCC := Aside0.mk hcc
        clear hcc hb
        go_wp2
        go_meet
        case rel => exact ⟨by rw [HCC.out]; exact H1.out⟩
    · have ts : (st == 10) = false := by simpa using hst
      have hcc : c2 = cmd := by rw [HC2.out]; unfold putc; rw [if_neg (fun h => hst h.1)]
      have HCC := Aside0.mk hcc
      clear hcc hst
      go_wp2
      go_meet
      case rel => exact ⟨by rw [HCC.out]; exact H1.out⟩
  case rest =>
    clear H1
    have H5 := Aside0.mk hcut.out
    clear hcut
    obtain ⟨w5, hw5⟩ : ∃ w5, w5 = wc := ⟨_, rfl⟩
    rw [← hw5] at H5 ⊢
    clear hw5
    have c11 := H5.out.c11
    have tdl : decide ((dl : Int) < 0) = false := decide_eq_false (by omega)
    go_wp2_with fail
    clear c11
    by_cases hm : dl < m
    · have HM := Aside0.mk hm
      have q0 : (0 : Int) ≤ (dl : Int) := by omega
      have q1 : (dl : Int) < (m : Int) := by omega
      have qd : decide ((dl : Int) < (m : Int)) = true := decide_eq_true (by omega)
      obtain ⟨k2, hk2⟩ : ∃ k2, k2 = dl + 1 := ⟨_, rfl⟩
      have HK2 := Aside0.mk hk2
      have hwr : wrap64 ((dl : Int) + 1) = (k2 : Int) := by have := HBG.out; unfold wrap64; omega
      clear hk2 hm
      refine start_ (n := 10) (S := (fun w' => w'.cell? ⟨g, 10, none⟩ = some (.slice (some ⟨gd, 0, none⟩) m m) ∧ w'.cell? ⟨g, 11, none⟩ = some (.int .i64 (dl : Int)))) (ds := []) #[false, false, false, false, false, false, false, false, false, false] (by kernel_rfl) rfl rfl ⟨H5.out.c10, H5.out.c11⟩ (fun hHeld => ?_)
      refine with_tabW u48_tab u48_bits (fun HT_ HW_ => ?_)
      have H6d := Aside0.mk (show PV hs B w0 w5.drew g gp gd n m ⟨ps, da, dl, pl, c2, st⟩ from H5.out.drew)
      clear H5
      generalize w5.drew = w6d at H6d hHeld ⊢
      refine pure_ (i := 0) (N := some 297) (v := ?_) (a' := ?_) (zF 10 1) rfl rfl (any_of HT_.out (by kernel_rfl)) (fun _ _ _ h => h) (Or.inl ⟨by rfl, ?_⟩) ?_ ?_
      rotate_left; (intro w'; go_simp; with_reducible rfl); rotate_left; (simp only [Act.put, zA, zZ, zS, i64_w, i32_w]; rfl)
      refine pure_ (i := 1) (N := some 298) (v := ?_) (a' := ?_) (zF 10 3) rfl rfl (any_of HT_.out (by kernel_rfl)) (fun _ _ _ h => h) (Or.inl ⟨by rfl, ?_⟩) ?_ ?_
      rotate_left; (intro w'; go_simp; with_reducible rfl); rotate_left; (simp only [Act.put, zA, zZ, zS, i64_w, i32_w]; rfl)
      refine pure_ (i := 2) (N := some 299) (v := ?_) (a' := ?_) (zF 10 7) rfl rfl (any_of HT_.out (by kernel_rfl)) (fun _ _ _ h => h) (Or.inl ⟨by rfl, ?_⟩) ?_ ?_
      rotate_left; (intro w'; go_simp; with_reducible rfl); rotate_left; (simp only [Act.put, zA, zZ, zS, i64_w, i32_w]; rfl)
      refine pure_ (i := 4) (N := some 301) (v := ?_) (a' := ?_) (zF 10 23) rfl rfl (any_of HT_.out (by kernel_rfl)) (fun _ _ _ h => h) (Or.inl ⟨by rfl, ?_⟩) ?_ ?_
      rotate_left; (intro w'; go_simp; with_reducible rfl); rotate_left; (simp only [Act.put, zA, zZ, zS, i64_w, i32_w]; rfl)
      refine pure_ (i := 5) (N := some 302) (v := ?_) (a' := ?_) (zF 10 55) rfl rfl (any_of HT_.out (by kernel_rfl)) (fun _ _ _ h => h) (Or.inl ⟨by rfl, ?_⟩) ?_ ?_
      rotate_left; (intro w'; go_simp; with_reducible rfl); rotate_left; (simp only [Act.put, zA, zZ, zS, i64_w, i32_w]; rfl)
      refine pure_ (i := 6) (N := some 303) (v := ?_) (a' := ?_) (zF 10 119) rfl rfl (any_of HT_.out (by kernel_rfl)) (fun _ _ _ h => h) (Or.inl ⟨by rfl, ?_⟩) ?_ ?_
      rotate_left; (intro w'; go_simp; with_reducible rfl); rotate_left; (simp only [Act.put, zA, zZ, zS, i64_w, i32_w]; rfl)
      refine take_ (i := 3) (N := some 300) (v := ?_) (a' := ?_) (zF 10 127) rfl rfl (take_ofW HT_.out HW_.out (by kernel_rfl)) (fun _ _ _ h => h) (Or.inl ⟨by rfl, ?_⟩) hHeld ?_ ?_
      rotate_left; (rintro w' ⟨s0, s1⟩; go_simp; with_reducible rfl); rotate_left; (simp only [Act.put, zA, zZ, zS, i64_w, i32_w]; rfl)
      refine take_ (i := 7) (N := some 304) (v := ?_) (a' := ?_) (zF 10 255) rfl rfl (take_ofW HT_.out HW_.out (by kernel_rfl)) (fun _ _ _ h => h) (Or.inl ⟨by rfl, ?_⟩) hHeld ?_ ?_
      rotate_left; (rintro w' ⟨s0, s1⟩; go_simp; with_reducible rfl); rotate_left; (simp only [Act.put, zA, zZ, zS, i64_w, i32_w]; rfl)
      refine pure_ (i := 8) (N := some 305) (v := ?_) (a' := ?_) (zF 10 511) rfl rfl (any_of HT_.out (by kernel_rfl)) (fun _ _ _ h => h) (Or.inl ⟨by rfl, ?_⟩) ?_ ?_
      rotate_left; (intro w'; go_simp; with_reducible rfl); rotate_left; (simp only [Act.put, zA, zZ, zS, i64_w, i32_w]; rfl)
      refine pure_ (i := 9) (N := some 306) (v := ?_) (a' := ?_) (zF 10 1023) rfl rfl (any_of HT_.out (by kernel_rfl)) (fun _ _ _ h => h) (Or.inl ⟨by rfl, ?_⟩) ?_ ?_
      rotate_left; (intro w'; go_simp; with_reducible rfl); rotate_left; (simp only [Act.put, zA, zZ, zS, i64_w, i32_w]; rfl)
      refine done_ (done_of HT_.out (by kernel_rfl)) ?_
      clear hHeld
      go_wp2_with fail
      refine start_ (n := 11) (S := (fun w' => w'.cell? ⟨g, 10, none⟩ = some (.slice (some ⟨gd, 0, none⟩) m m) ∧ w'.cell? ⟨g, 11, none⟩ = some (.int .i64 (dl : Int)))) (ds := [10]) #[false, false, false, false, false, false, false, false, false, false, false] (by kernel_rfl) rfl rfl ⟨H6d.out.c10, H6d.out.c11⟩ (fun hHeld => ?_)
      refine with_tabW u49_tab u49_bits (fun HT_ HW_ => ?_)
      have H7d := Aside0.mk (show PV hs B w0 w6d.drew g gp gd n m ⟨ps, da, dl, pl, c2, st⟩ from H6d.out.drew)
      clear H6d
      generalize w6d.drew = w7d at H7d hHeld ⊢
      refine pure_ (i := 0) (N := some 307) (v := ?_) (a' := ?_) (zF 11 1) rfl rfl (any_of HT_.out (by kernel_rfl)) (fun _ _ _ h => h) (Or.inl ⟨by rfl, ?_⟩) ?_ ?_
      rotate_left; (intro w'; go_simp; with_reducible rfl); rotate_left; (simp only [Act.put, zA, zZ, zS, i64_w, i32_w]; rfl)
      refine pure_ (i := 1) (N := some 308) (v := ?_) (a' := ?_) (zF 11 3) rfl rfl (any_of HT_.out (by kernel_rfl)) (fun _ _ _ h => h) (Or.inl ⟨by rfl, ?_⟩) ?_ ?_
      rotate_left; (intro w'; go_simp; with_reducible rfl); rotate_left; (simp only [Act.put, zA, zZ, zS, i64_w, i32_w]; rfl)
      refine pure_ (i := 2) (N := some 309) (v := ?_) (a' := ?_) (zF 11 7) rfl rfl (any_of HT_.out (by kernel_rfl)) (fun _ _ _ h => h) (Or.inl ⟨by rfl, ?_⟩) ?_ ?_
      rotate_left; (intro w'; go_simp; with_reducible rfl); rotate_left; (simp only [Act.put, zA, zZ, zS, i64_w, i32_w]; rfl)
      refine pure_ (i := 4) (N := some 311) (v := ?_) (a' := ?_) (zF 11 23) rfl rfl (any_of HT_.out (by kernel_rfl)) (fun _ _ _ h => h) (Or.inl ⟨by rfl, ?_⟩) ?_ ?_
      rotate_left; (intro w'; go_simp; with_reducible rfl); rotate_left; (simp only [Act.put, zA, zZ, zS, i64_w, i32_w]; rfl)
      refine pure_ (i := 5) (N := some 312) (v := ?_) (a' := ?_) (zF 11 55) rfl rfl (any_of HT_.out (by kernel_rfl)) (fun _ _ _ h => h) (Or.inl ⟨by rfl, ?_⟩) ?_ ?_
      rotate_left; (intro w'; go_simp; with_reducible rfl); rotate_left; (simp only [Act.put, zA, zZ, zS, i64_w, i32_w]; rfl)
      refine pure_ (i := 6) (N := some 313) (v := ?_) (a' := ?_) (zF 11 119) rfl rfl (any_of HT_.out (by kernel_rfl)) (fun _ _ _ h => h) (Or.inl ⟨by rfl, ?_⟩) ?_ ?_
      rotate_left; (intro w'; go_simp; with_reducible rfl); rotate_left; (simp only [Act.put, zA, zZ, zS, i64_w, i32_w]; rfl)
      refine pure_ (i := 8) (N := some 315) (v := ?_) (a' := ?_) (zF 11 375) rfl rfl (any_of HT_.out (by kernel_rfl)) (fun _ _ _ h => h) (Or.inl ⟨by rfl, ?_⟩) ?_ ?_
      rotate_left; (intro w'; go_simp; with_reducible rfl); rotate_left; (simp only [Act.put, zA, zZ, zS, i64_w, i32_w]; rfl)
      refine take_ (i := 3) (N := some 310) (v := ?_) (a' := ?_) (zF 11 383) rfl rfl (take_ofW HT_.out HW_.out (by kernel_rfl)) (fun _ _ _ h => h) (Or.inl ⟨by rfl, ?_⟩) hHeld ?_ ?_
      rotate_left; (rintro w' ⟨s0, s1⟩; go_simp; with_reducible rfl); rotate_left; (simp only [Act.put, zA, zZ, zS, i64_w, i32_w]; rfl)
      refine take_ (i := 7) (N := some 314) (v := ?_) (a' := ?_) (zF 11 511) rfl rfl (take_ofW HT_.out HW_.out (by kernel_rfl)) (fun _ _ _ h => h) (Or.inl ⟨by rfl, ?_⟩) hHeld ?_ ?_
      rotate_left; (rintro w' ⟨s0, s1⟩; go_simp; with_reducible rfl); rotate_left; (simp only [Act.put, zA, zZ, zS, i64_w, i32_w]; rfl)
      refine pure_ (i := 9) (N := some 316) (v := ?_) (a' := ?_) (zF 11 1023) rfl rfl (any_of HT_.out (by kernel_rfl)) (fun _ _ _ h => h) (Or.inl ⟨by rfl, ?_⟩) ?_ ?_
      rotate_left; (intro w'; go_simp; with_reducible rfl); rotate_left; (simp only [Act.put, zA, zZ, zS, i64_w, i32_w]; rfl)
      refine last_ (i := 10) (N := none) (zF 11 2047) rfl rfl (one_of HT_.out (by kernel_rfl)) (by decide) (fun K hK => ?_)
      have q7d : w7d.cell? ⟨gd, dl, none⟩ = some (.int .u8 (da.getD dl 0)) := H7d.out.cd dl HM.out
      have qf7d := H7d.out.freed dl
      refine skip_ (w1 := ?_) (by rfl) rfl ?_ ?_
      rotate_left
      · go_simp
        with_reducible rfl
      refine hK.out _ _ ?_
      clear hK K
      clear q7d qf7d
      refine done_ (done_of HT_.out (by kernel_rfl)) ?_
      clear hHeld
      have H7 := Aside0.mk (show PV hs B w0 (w7d.setCell ⟨gd, dl, none⟩ (.int .u8 b)) g gp gd n m ⟨ps, da.set dl b, dl, pl, c2, st⟩ from H7d.out.set_d dl b)
      clear H7d
      generalize w7d.setCell ⟨gd, dl, none⟩ (.int .u8 b) = w7 at H7 ⊢
      have c11 := H7.out.c11
      have f11 := H7.out.free 11
      have H9 := Aside0.mk (H7.out.set_dl k2 (k2 : Int) rfl)
      go_wp2
      go_end0
      refine ⟨rfl, ?_⟩
      have hp : pput ⟨ps, da, dl, pl, cmd, st⟩ b = ⟨ps, da.set dl b, k2, pl, c2, st⟩ := by unfold pput; rw [if_pos (show dl < da.length by rw [HML.out]; exact HM.out), HC2.out, HK2.out]
      rw [hp]
      exact H9.out
    · have qd : decide ((dl : Int) < (m : Int)) = false := decide_eq_false (by omega)
      refine start_ (n := 10) (S := (fun w' => w'.cell? ⟨g, 10, none⟩ = some (.slice (some ⟨gd, 0, none⟩) m m) ∧ w'.cell? ⟨g, 11, none⟩ = some (.int .i64 (dl : Int)))) (ds := []) #[false, false, false, false, false, false, false, false, false, false] (by kernel_rfl) rfl rfl ⟨H5.out.c10, H5.out.c11⟩ (fun hHeld => ?_)
      refine with_tabW u48_tab u48_bits (fun HT_ HW_ => ?_)
      have H6d := Aside0.mk (show PV hs B w0 w5.drew g gp gd n m ⟨ps, da, dl, pl, c2, st⟩ from H5.out.drew)
      clear H5
      generalize w5.drew = w6d at H6d hHeld ⊢
      refine pure_ (i := 0) (N := some 297) (v := ?_) (a' := ?_) (zF 10 1) rfl rfl (any_of HT_.out (by kernel_rfl)) (fun _ _ _ h => h) (Or.inl ⟨by rfl, ?_⟩) ?_ ?_
      rotate_left; (intro w'; go_simp; with_reducible rfl); rotate_left; (simp only [Act.put, zA, zZ, zS, i64_w, i32_w]; rfl)
      refine pure_ (i := 1) (N := some 298) (v := ?_) (a' := ?_) (zF 10 3) rfl rfl (any_of HT_.out (by kernel_rfl)) (fun _ _ _ h => h) (Or.inl ⟨by rfl, ?_⟩) ?_ ?_
      rotate_left; (intro w'; go_simp; with_reducible rfl); rotate_left; (simp only [Act.put, zA, zZ, zS, i64_w, i32_w]; rfl)
      refine pure_ (i := 2) (N := some 299) (v := ?_) (a' := ?_) (zF 10 7) rfl rfl (any_of HT_.out (by kernel_rfl)) (fun _ _ _ h => h) (Or.inl ⟨by rfl, ?_⟩) ?_ ?_
      rotate_left; (intro w'; go_simp; with_reducible rfl); rotate_left; (simp only [Act.put, zA, zZ, zS, i64_w, i32_w]; rfl)
      refine pure_ (i := 4) (N := some 301) (v := ?_) (a' := ?_) (zF 10 23) rfl rfl (any_of HT_.out (by kernel_rfl)) (fun _ _ _ h => h) (Or.inl ⟨by rfl, ?_⟩) ?_ ?_
      rotate_left; (intro w'; go_simp; with_reducible rfl); rotate_left; (simp only [Act.put, zA, zZ, zS, i64_w, i32_w]; rfl)
      refine pure_ (i := 5) (N := some 302) (v := ?_) (a' := ?_) (zF 10 55) rfl rfl (any_of HT_.out (by kernel_rfl)) (fun _ _ _ h => h) (Or.inl ⟨by rfl, ?_⟩) ?_ ?_
      rotate_left; (intro w'; go_simp; with_reducible rfl); rotate_left; (simp only [Act.put, zA, zZ, zS, i64_w, i32_w]; rfl)
      refine pure_ (i := 6) (N := some 303) (v := ?_) (a' := ?_) (zF 10 119) rfl rfl (any_of HT_.out (by kernel_rfl)) (fun _ _ _ h => h) (Or.inl ⟨by rfl, ?_⟩) ?_ ?_
      rotate_left; (intro w'; go_simp; with_reducible rfl); rotate_left; (simp only [Act.put, zA, zZ, zS, i64_w, i32_w]; rfl)
      refine take_ (i := 3) (N := some 300) (v := ?_) (a' := ?_) (zF 10 127) rfl rfl (take_ofW HT_.out HW_.out (by kernel_rfl)) (fun _ _ _ h => h) (Or.inl ⟨by rfl, ?_⟩) hHeld ?_ ?_
      rotate_left; (rintro w' ⟨s0, s1⟩; go_simp; with_reducible rfl); rotate_left; (simp only [Act.put, zA, zZ, zS, i64_w, i32_w]; rfl)
      refine take_ (i := 7) (N := some 304) (v := ?_) (a' := ?_) (zF 10 255) rfl rfl (take_ofW HT_.out HW_.out (by kernel_rfl)) (fun _ _ _ h => h) (Or.inl ⟨by rfl, ?_⟩) hHeld ?_ ?_
      rotate_left; (rintro w' ⟨s0, s1⟩; go_simp; with_reducible rfl); rotate_left; (simp only [Act.put, zA, zZ, zS, i64_w, i32_w]; rfl)
      refine pure_ (i := 8) (N := some 305) (v := ?_) (a' := ?_) (zF 10 511) rfl rfl (any_of HT_.out (by kernel_rfl)) (fun _ _ _ h => h) (Or.inl ⟨by rfl, ?_⟩) ?_ ?_
      rotate_left; (intro w'; go_simp; with_reducible rfl); rotate_left; (simp only [Act.put, zA, zZ, zS, i64_w, i32_w]; rfl)
      refine pure_ (i := 9) (N := some 306) (v := ?_) (a' := ?_) (zF 10 1023) rfl rfl (any_of HT_.out (by kernel_rfl)) (fun _ _ _ h => h) (Or.inl ⟨by rfl, ?_⟩) ?_ ?_
      rotate_left; (intro w'; go_simp; with_reducible rfl); rotate_left; (simp only [Act.put, zA, zZ, zS, i64_w, i32_w]; rfl)
      refine done_ (done_of HT_.out (by kernel_rfl)) ?_
      clear hHeld
      go_wp2
      go_end0
      refine ⟨rfl, ?_⟩
      have h_ := H6d.out
      rw [HC2.out] at h_
      unfold pput
      rw [if_neg (show ¬ dl < da.length by rw [HML.out]; exact hm)]
      exact h_
end Go.Proofs.YtmpmfdghdaofhaaDoor.Pm

namespace Go.Proofs.YtmpmfdghdaofhaaDoor.Pm
set_option linter.unusedVariables false
set_option linter.unusedSimpArgs false
open Go Go.RowKit Go.Proofs.YtmpmfdghdaofhaaDoorW.PrintWords Go.Proofs.YtmpmfdghdaofhaaDoorW.PrintLast Go.Proofs.YtmpmfdghdaofhaaDoorW.PrintMore
def d52T : Bool × List (List Nat × List Nat) := (true, [([], []), ([0], [0]), ([1], [1]), ([2], [2]), ([3], [3]), ([4], [4]), ([5], [5]), ([6, 5], [5, 6]), ([7, 5], [5, 7]), ([8, 5], [5, 8]), ([5], [5]), ([10, 5], [5, 10]), ([11, 5], [5, 11]), ([12, 5], [5, 12]), ([13, 5], [5, 13]), ([14, 5], [5, 14]), ([9, 15, 5], [5, 9, 15]), ([5, 16], [5, 16]), ([17, 5], [17]), ([18], [18]), ([19, 18], [18, 19]), ([20, 18], [18, 20]), ([21, 18], [18, 21]), ([22, 18], [18, 22]), ([23, 18, 18], [18, 23]), ([24], [24]), ([25, 24], [24, 25]), ([26, 24], [24, 26]), ([27, 24], [24, 27]), ([28, 24], [24, 28]), ([29, 24], [24, 29]), ([24, 30, 18], [18, 24, 30]), ([31, 24, 18], [18, 31]), ([32], [32]), ([33, 32], [32, 33]), ([34, 32], [32, 34]), ([35, 32], [32, 35]), ([36, 32], [32, 36]), ([37, 32], [32, 37]), ([38, 32], [32, 38]), ([32, 39, 18], [18, 32, 39]), ([18, 40], [18, 40])])
def d52B : List Nat := [0, 1, 3, 7, 15, 31, 63, 127, 255, 511, 63, 1087, 3135, 7231, 15423, 31807, 65535, 131071, 262143, 524287, 1048575, 2097151, 4194303, 8388607, 16777215, 33554431, 67108863, 134217727, 268435455, 536870911, 1073741823, 2147483647, 4294967295, 8589934591, 17179869183, 34359738367, 68719476735, 137438953471, 274877906943, 549755813887, 1099511627775, 2199023255551]
theorem d52_tab : rtab .any (opsOf Tryd.f68 52) = d52T := by kernel_rfl
theorem d52_bits : waitsOk d52T.2 d52B = true := by kernel_rfl
def pdq (n : Nat) (p : PM) : Bool := decide ((0 < p.pl ∧ p.pl + 1 < n) ∨ (p.pl = 0 ∧ 0 < n ∧ p.ps.getD 0 0 ≠ 2147483647))
def pdc (p : PM) : Int := if p.st = 10 ∧ p.cmd = 2147483647 then pnum (p.da.take p.dl) p.cmd else p.cmd
def pde (p : PM) (b : Int) : Int := if p.st = 1 ∨ p.st = 2 ∨ p.st = 3 ∨ p.st = 8 ∨ p.st = 9 then Go.bits .or .i64 (pdc p) b else pdc p
def pdisp (n : Nat) (p : PM) (b : Int) : PM := ⟨p.ps, p.da, p.dl, if pdq n p then p.pl + 1 else p.pl, pde p b, p.st⟩
theorem pdisp_in (n : Nat) (p : PM) (b : Int) (k2 : Nat) (c2 : Int) (hk : k2 = if pdq n p then p.pl + 1 else p.pl) (hc : c2 = pdc p) (hst : p.st = 1 ∨ p.st = 2 ∨ p.st = 3 ∨ p.st = 8 ∨ p.st = 9) : pdisp n p b = ⟨p.ps, p.da, p.dl, k2, Go.bits .or .i64 c2 b, p.st⟩ := by
  unfold pdisp pde
  rw [if_pos hst, ← hk, ← hc]
theorem pdisp_out (n : Nat) (p : PM) (b : Int) (k2 : Nat) (c2 : Int) (hk : k2 = if pdq n p then p.pl + 1 else p.pl) (hc : c2 = pdc p) (hst : ¬ (p.st = 1 ∨ p.st = 2 ∨ p.st = 3 ∨ p.st = 8 ∨ p.st = 9)) : pdisp n p b = ⟨p.ps, p.da, p.dl, k2, c2, p.st⟩ := by
  unfold pdisp pde
  rw [if_neg hst, ← hk, ← hc]
set_option maxHeartbeats 8000000 in
set_option maxRecDepth 100000 in
theorem pa_disp (hs : Nat → Value) (B : Nat) (w0 w : World) (g gp gd n m : Nat) (p : PM) (h : PV hs B w0 w g gp gd n m p) (st2 b : Int) (hb0 : 0 ≤ b) (hb1 : b < 256) (hnil : ∀ k, k < 9 → hs k = .nilFunc) (hdl : p.dl ≤ m) (hbig : m ≤ 1000000) (hst : 1 ≤ p.st ∧ p.st ≤ 13) (hpl : p.pl ≤ n) (hnb : n ≤ 1000000) :
    Calls Tryd.prog 68 #[.pointer (some ⟨g, 0, none⟩), .int .u8 4, .int .u8 st2, .int .u8 b] w fun e w' => e = .returned (.tuple #[]) ∧ PV hs B w0 w' g gp gd n m (pdisp n p b) := by
  have hwb : wrap64 b = b := by unfold wrap64; omega
  obtain ⟨ps, da, dl, pl, cmd, st⟩ := p
  replace hdl : dl ≤ m := hdl
  replace hst : 1 ≤ st ∧ st ≤ 13 := hst
  replace hpl : pl ≤ n := hpl
  obtain ⟨tq, htq⟩ : ∃ t, t = pdq n ⟨ps, da, dl, pl, cmd, st⟩ := ⟨_, rfl⟩
  obtain ⟨k2, hk2⟩ : ∃ k, k = (if tq then pl + 1 else pl) := ⟨_, rfl⟩
  obtain ⟨tp, htp⟩ : ∃ t, t = decide (st = 10 ∧ cmd = 2147483647) := ⟨_, rfl⟩
  obtain ⟨c2, hc2⟩ : ∃ c, c = pdc ⟨ps, da, dl, pl, cmd, st⟩ := ⟨_, rfl⟩
  have HTQ := Aside0.mk htq
  have HK2 := Aside0.mk hk2
  have HTP := Aside0.mk htp
  have HC2 := Aside0.mk hc2
  have HDL := Aside0.mk hdl
  have HBG := Aside0.mk hbig
  have HST := Aside0.mk hst
  have HNL := Aside0.mk hnil
  have HNB := Aside0.mk hnb
  have HPB := Aside0.mk (show pl ≤ 1000000 by omega)
  clear hdl hbig hst hpl hnb hnil htq hk2 htp hc2 hb0 hb1
  obtain ⟨w1, hw1⟩ : ∃ w1, w1 = w := ⟨_, rfl⟩
  rw [← hw1]
  have H1 := Aside0.mk (show PV hs B w0 w1 g gp gd n m ⟨ps, da, dl, pl, cmd, st⟩ by rw [hw1]; exact h)
  clear hw1 h
  go_enter Tryd.func68, Tryd.ntmps68
  go_upto_region 52 with (fail)
  go_cut [367] from 326 to 367 (fun v wc => v = .bool tq ∧ Aside0 (PV hs B w0 wc g gp gd n m ⟨ps, da, dl, pl, cmd, st⟩))
  case first =>
    by_cases hpos : 0 < pl
    · have tpos : decide ((0 : Int) < (pl : Int)) = true := decide_eq_true (by omega)
      have tz : ((pl : Int) == 0) = false := by simp; omega
      have hwn : wrap64 ((n : Int) - 1) = (n : Int) - 1 := by have := HNB.out; unfold wrap64; omega
      by_cases hl : pl + 1 < n
      · have tl : decide ((pl : Int) < (n : Int) - 1) = true := decide_eq_true (by omega)
        have htq : tq = true := by rw [HTQ.out]; unfold pdq; exact decide_eq_true (.inl ⟨hpos, hl⟩)
        have HT2 := Aside0.mk htq
        clear htq
        refine start_ (n := 42) (S := (fun w' => w'.cell? ⟨g, 9, none⟩ = some (.slice (some ⟨gp, 0, none⟩) n n) ∧ w'.cell? ⟨g, 12, none⟩ = some (.int .i64 (pl : Int)))) (ds := []) #[false, false, false, false, false, false, false, false, false, false, false, false, false, false, false, false, false, false, false, false, false, false, false, false, false, false, false, false, false, false, false, false, false, false, false, false, false, false, false, false, false, false] (by kernel_rfl) rfl rfl ⟨H1.out.c9, H1.out.c12⟩ (fun hHeld => ?_)
        refine with_tabW d52_tab d52_bits (fun HT_ HW_ => ?_)
        have H2d := Aside0.mk (show PV hs B w0 w1.drew g gp gd n m ⟨ps, da, dl, pl, cmd, st⟩ from H1.out.drew)
        clear H1
        generalize w1.drew = w2d at H2d hHeld ⊢
        refine pure_ (i := 0) (N := some 326) (v := ?_) (a' := ?_) (zF 42 1) rfl rfl (any_of HT_.out (by kernel_rfl)) (fun _ _ _ h => h) (Or.inl ⟨by rfl, ?_⟩) ?_ ?_
        rotate_left; (intro w'; go_simp; with_reducible rfl); rotate_left; (simp only [Act.put, zA, zZ, zS, i64_w, i32_w]; rfl)
        refine pure_ (i := 1) (N := some 327) (v := ?_) (a' := ?_) (zF 42 3) rfl rfl (any_of HT_.out (by kernel_rfl)) (fun _ _ _ h => h) (Or.inl ⟨by rfl, ?_⟩) ?_ ?_
        rotate_left; (intro w'; go_simp; with_reducible rfl); rotate_left; (simp only [Act.put, zA, zZ, zS, i64_w, i32_w]; rfl)
        refine pure_ (i := 2) (N := some 328) (v := ?_) (a' := ?_) (zF 42 7) rfl rfl (any_of HT_.out (by kernel_rfl)) (fun _ _ _ h => h) (Or.inl ⟨by rfl, ?_⟩) ?_ ?_
        rotate_left; (intro w'; go_simp; with_reducible rfl); rotate_left; (simp only [Act.put, zA, zZ, zS, i64_w, i32_w]; rfl)
        refine take_ (i := 3) (N := some 329) (v := ?_) (a' := ?_) (zF 42 15) rfl rfl (take_ofW HT_.out HW_.out (by kernel_rfl)) (fun _ _ _ h => h) (Or.inl ⟨by rfl, ?_⟩) hHeld ?_ ?_
        rotate_left; (rintro w' ⟨s0, s1⟩; go_simp; with_reducible rfl); rotate_left; (simp only [Act.put, zA, zZ, zS, i64_w, i32_w]; rfl)
        refine pure_ (i := 4) (N := some 330) (v := ?_) (a' := ?_) (zF 42 31) rfl rfl (any_of HT_.out (by kernel_rfl)) (fun _ _ _ h => h) (Or.inl ⟨by rfl, ?_⟩) ?_ ?_
        rotate_left; (intro w'; go_simp; with_reducible rfl); rotate_left; (simp only [Act.put, zA, zZ, zS, i64_w, i32_w]; rfl)
        refine pure_ (i := 5) (N := some 331) (v := ?_) (a' := ?_) (zF 42 63) rfl rfl (any_of HT_.out (by kernel_rfl)) (fun _ _ _ h => h) (Or.inl ⟨by rfl, ?_⟩) ?_ ?_
        rotate_left; (intro w'; go_simp; with_reducible rfl); rotate_left; (simp only [Act.put, zA, zZ, zS, i64_w, i32_w]; rfl)
        refine pure_ (i := 6) (N := some 332) (v := ?_) (a' := ?_) (zF 42 127) rfl rfl (any_of HT_.out (by kernel_rfl)) (fun _ _ _ h => h) (Or.inl ⟨by rfl, ?_⟩) ?_ ?_
        rotate_left; (intro w'; go_simp; with_reducible rfl); rotate_left; (simp only [Act.put, zA, zZ, zS, i64_w, i32_w]; rfl)
        refine pure_ (i := 7) (N := some 333) (v := ?_) (a' := ?_) (zF 42 255) rfl rfl (any_of HT_.out (by kernel_rfl)) (fun _ _ _ h => h) (Or.inl ⟨by rfl, ?_⟩) ?_ ?_
        rotate_left; (intro w'; go_simp; with_reducible rfl); rotate_left; (simp only [Act.put, zA, zZ, zS, i64_w, i32_w]; rfl)
        refine pure_ (i := 8) (N := some 334) (v := ?_) (a' := ?_) (zF 42 511) rfl rfl (any_of HT_.out (by kernel_rfl)) (fun _ _ _ h => h) (Or.inl ⟨by rfl, ?_⟩) ?_ ?_
        rotate_left; (intro w'; go_simp; with_reducible rfl); rotate_left; (simp only [Act.put, zA, zZ, zS, i64_w, i32_w]; rfl)
        refine pure_ (i := 10) (N := some 336) (v := ?_) (a' := ?_) (zF 42 1535) rfl rfl (any_of HT_.out (by kernel_rfl)) (fun _ _ _ h => h) (Or.inl ⟨by rfl, ?_⟩) ?_ ?_
        rotate_left; (intro w'; go_simp; with_reducible rfl); rotate_left; (simp only [Act.put, zA, zZ, zS, i64_w, i32_w]; rfl)
        refine pure_ (i := 11) (N := some 337) (v := ?_) (a' := ?_) (zF 42 3583) rfl rfl (any_of HT_.out (by kernel_rfl)) (fun _ _ _ h => h) (Or.inl ⟨by rfl, ?_⟩) ?_ ?_
        rotate_left; (intro w'; go_simp; with_reducible rfl); rotate_left; (simp only [Act.put, zA, zZ, zS, i64_w, i32_w]; rfl)
        refine pure_ (i := 12) (N := some 338) (v := ?_) (a' := ?_) (zF 42 7679) rfl rfl (any_of HT_.out (by kernel_rfl)) (fun _ _ _ h => h) (Or.inl ⟨by rfl, ?_⟩) ?_ ?_
        rotate_left; (intro w'; go_simp; with_reducible rfl); rotate_left; (simp only [Act.put, zA, zZ, zS, i64_w, i32_w]; rfl)
        refine take_ (i := 9) (N := some 335) (v := ?_) (a' := ?_) (zF 42 8191) rfl rfl (take_ofW HT_.out HW_.out (by kernel_rfl)) (fun _ _ _ h => h) (Or.inl ⟨by rfl, ?_⟩) hHeld ?_ ?_
        rotate_left; (rintro w' ⟨s0, s1⟩; go_simp; with_reducible rfl); rotate_left; (simp only [Act.put, zA, zZ, zS, i64_w, i32_w]; rfl)
        refine take_ (i := 13) (N := some 339) (v := ?_) (a' := ?_) (zF 42 16383) rfl rfl (take_ofW HT_.out HW_.out (by kernel_rfl)) (fun _ _ _ h => h) (Or.inl ⟨by rfl, ?_⟩) hHeld ?_ ?_
        rotate_left; (rintro w' ⟨s0, s1⟩; go_simp; with_reducible rfl); rotate_left; (simp only [Act.put, zA, zZ, zS, i64_w, i32_w]; rfl)
        refine pure_ (i := 14) (N := some 340) (v := ?_) (a' := ?_) (zF 42 32767) rfl rfl (any_of HT_.out (by kernel_rfl)) (fun _ _ _ h => h) (Or.inl ⟨by rfl, ?_⟩) ?_ ?_
        rotate_left; (intro w'; go_simp; with_reducible rfl); rotate_left; (simp only [Act.put, zA, zZ, zS, i64_w, i32_w]; rfl)
        refine pure_ (i := 15) (N := some 341) (v := ?_) (a' := ?_) (zF 42 65535) rfl rfl (any_of HT_.out (by kernel_rfl)) (fun _ _ _ h => h) (Or.inl ⟨by rfl, ?_⟩) ?_ ?_
        rotate_left; (intro w'; go_simp; with_reducible rfl); rotate_left; (simp only [Act.put, zA, zZ, zS, i64_w, i32_w]; rfl)
        refine pure_ (i := 16) (N := some 342) (v := ?_) (a' := ?_) (zF 42 131071) rfl rfl (any_of HT_.out (by kernel_rfl)) (fun _ _ _ h => h) (Or.inl ⟨by rfl, ?_⟩) ?_ ?_
        rotate_left; (intro w'; go_simp; with_reducible rfl); rotate_left; (simp only [Act.put, zA, zZ, zS, i64_w, i32_w]; rfl)
        refine pure_ (i := 17) (N := some 343) (v := ?_) (a' := ?_) (zF 42 262143) rfl rfl (any_of HT_.out (by kernel_rfl)) (fun _ _ _ h => h) (Or.inl ⟨by rfl, ?_⟩) ?_ ?_
        rotate_left; (intro w'; go_simp; with_reducible rfl); rotate_left; (simp only [Act.put, zA, zZ, zS, i64_w, i32_w]; rfl)
        refine pure_ (i := 18) (N := some 344) (v := ?_) (a' := ?_) (zF 42 524287) rfl rfl (any_of HT_.out (by kernel_rfl)) (fun _ _ _ h => h) (Or.inl ⟨by rfl, ?_⟩) ?_ ?_
        rotate_left; (intro w'; go_simp; with_reducible rfl); rotate_left; (simp only [Act.put, zA, zZ, zS, i64_w, i32_w]; rfl)
        refine pure_ (i := 19) (N := some 345) (v := undef) (a' := ?_) (zF 42 1048575) rfl rfl (any_of HT_.out (by kernel_rfl)) (fun _ _ _ h => h) (Or.inr ⟨by rfl, rfl⟩) ?_ ?_
        rotate_left
        · simp only [Act.put, zA, zZ, zS, i64_w, i32_w]
          rfl
        refine pure_ (i := 20) (N := some 346) (v := undef) (a' := ?_) (zF 42 2097151) rfl rfl (any_of HT_.out (by kernel_rfl)) (fun _ _ _ h => h) (Or.inr ⟨by rfl, rfl⟩) ?_ ?_
        rotate_left
        · simp only [Act.put, zA, zZ, zS, i64_w, i32_w]
          rfl
        refine pure_ (i := 21) (N := some 347) (v := undef) (a' := ?_) (zF 42 4194303) rfl rfl (any_of HT_.out (by kernel_rfl)) (fun _ _ _ h => h) (Or.inr ⟨by rfl, rfl⟩) ?_ ?_
        rotate_left
        · simp only [Act.put, zA, zZ, zS, i64_w, i32_w]
          rfl
        refine pure_ (i := 22) (N := some 348) (v := undef) (a' := ?_) (zF 42 8388607) rfl rfl (any_of HT_.out (by kernel_rfl)) (fun _ _ _ h => h) (Or.inr ⟨by rfl, rfl⟩) ?_ ?_
        rotate_left
        · simp only [Act.put, zA, zZ, zS, i64_w, i32_w]
          rfl
        refine pure_ (i := 23) (N := some 349) (v := undef) (a' := ?_) (zF 42 16777215) rfl rfl (any_of HT_.out (by kernel_rfl)) (fun _ _ _ h => h) (Or.inr ⟨by rfl, rfl⟩) ?_ ?_
        rotate_left
        · simp only [Act.put, zA, zZ, zS, i64_w, i32_w]
          rfl
        refine pure_ (i := 24) (N := some 350) (v := undef) (a' := ?_) (zF 42 33554431) rfl rfl (any_of HT_.out (by kernel_rfl)) (fun _ _ _ h => h) (Or.inr ⟨by rfl, rfl⟩) ?_ ?_
        rotate_left
        · simp only [Act.put, zA, zZ, zS, i64_w, i32_w]
          rfl
        refine pure_ (i := 25) (N := some 351) (v := undef) (a' := ?_) (zF 42 67108863) rfl rfl (any_of HT_.out (by kernel_rfl)) (fun _ _ _ h => h) (Or.inr ⟨by rfl, rfl⟩) ?_ ?_
        rotate_left
        · simp only [Act.put, zA, zZ, zS, i64_w, i32_w]
          rfl
        refine pure_ (i := 26) (N := some 352) (v := undef) (a' := ?_) (zF 42 134217727) rfl rfl (any_of HT_.out (by kernel_rfl)) (fun _ _ _ h => h) (Or.inr ⟨by rfl, rfl⟩) ?_ ?_
        rotate_left
        · simp only [Act.put, zA, zZ, zS, i64_w, i32_w]
          rfl
        refine pure_ (i := 27) (N := some 353) (v := undef) (a' := ?_) (zF 42 268435455) rfl rfl (any_of HT_.out (by kernel_rfl)) (fun _ _ _ h => h) (Or.inr ⟨by rfl, rfl⟩) ?_ ?_
        rotate_left
        · simp only [Act.put, zA, zZ, zS, i64_w, i32_w]
          rfl
        refine pure_ (i := 28) (N := some 354) (v := undef) (a' := ?_) (zF 42 536870911) rfl rfl (any_of HT_.out (by kernel_rfl)) (fun _ _ _ h => h) (Or.inr ⟨by rfl, rfl⟩) ?_ ?_
        rotate_left
        · simp only [Act.put, zA, zZ, zS, i64_w, i32_w]
          rfl
        refine pure_ (i := 29) (N := some 355) (v := undef) (a' := ?_) (zF 42 1073741823) rfl rfl (any_of HT_.out (by kernel_rfl)) (fun _ _ _ h => h) (Or.inr ⟨by rfl, rfl⟩) ?_ ?_
        rotate_left
        · simp only [Act.put, zA, zZ, zS, i64_w, i32_w]
          rfl
        refine pure_ (i := 30) (N := some 356) (v := undef) (a' := ?_) (zF 42 2147483647) rfl rfl (any_of HT_.out (by kernel_rfl)) (fun _ _ _ h => h) (Or.inr ⟨by rfl, rfl⟩) ?_ ?_
        rotate_left
        · simp only [Act.put, zA, zZ, zS, i64_w, i32_w]
          rfl
        refine pure_ (i := 31) (N := some 357) (v := undef) (a' := ?_) (zF 42 4294967295) rfl rfl (any_of HT_.out (by kernel_rfl)) (fun _ _ _ h => h) (Or.inr ⟨by rfl, rfl⟩) ?_ ?_
        rotate_left
        · simp only [Act.put, zA, zZ, zS, i64_w, i32_w]
          rfl
        refine pure_ (i := 32) (N := some 358) (v := undef) (a' := ?_) (zF 42 8589934591) rfl rfl (any_of HT_.out (by kernel_rfl)) (fun _ _ _ h => h) (Or.inr ⟨by rfl, rfl⟩) ?_ ?_
        rotate_left
        · simp only [Act.put, zA, zZ, zS, i64_w, i32_w]
          rfl
        refine pure_ (i := 33) (N := some 359) (v := undef) (a' := ?_) (zF 42 17179869183) rfl rfl (any_of HT_.out (by kernel_rfl)) (fun _ _ _ h => h) (Or.inr ⟨by rfl, rfl⟩) ?_ ?_
        rotate_left
        · simp only [Act.put, zA, zZ, zS, i64_w, i32_w]
          rfl
        refine pure_ (i := 34) (N := some 360) (v := undef) (a' := ?_) (zF 42 34359738367) rfl rfl (any_of HT_.out (by kernel_rfl)) (fun _ _ _ h => h) (Or.inr ⟨by rfl, rfl⟩) ?_ ?_
        rotate_left
        · simp only [Act.put, zA, zZ, zS, i64_w, i32_w]
          rfl
        refine pure_ (i := 35) (N := some 361) (v := undef) (a' := ?_) (zF 42 68719476735) rfl rfl (any_of HT_.out (by kernel_rfl)) (fun _ _ _ h => h) (Or.inr ⟨by rfl, rfl⟩) ?_ ?_
        rotate_left
        · simp only [Act.put, zA, zZ, zS, i64_w, i32_w]
          rfl
        refine pure_ (i := 36) (N := some 362) (v := undef) (a' := ?_) (zF 42 137438953471) rfl rfl (any_of HT_.out (by kernel_rfl)) (fun _ _ _ h => h) (Or.inr ⟨by rfl, rfl⟩) ?_ ?_
        rotate_left
        · simp only [Act.put, zA, zZ, zS, i64_w, i32_w]
          rfl
        refine pure_ (i := 37) (N := some 363) (v := undef) (a' := ?_) (zF 42 274877906943) rfl rfl (any_of HT_.out (by kernel_rfl)) (fun _ _ _ h => h) (Or.inr ⟨by rfl, rfl⟩) ?_ ?_
        rotate_left
        · simp only [Act.put, zA, zZ, zS, i64_w, i32_w]
          rfl
        refine pure_ (i := 38) (N := some 364) (v := undef) (a' := ?_) (zF 42 549755813887) rfl rfl (any_of HT_.out (by kernel_rfl)) (fun _ _ _ h => h) (Or.inr ⟨by rfl, rfl⟩) ?_ ?_
        rotate_left
        · simp only [Act.put, zA, zZ, zS, i64_w, i32_w]
          rfl
        refine pure_ (i := 39) (N := some 365) (v := undef) (a' := ?_) (zF 42 1099511627775) rfl rfl (any_of HT_.out (by kernel_rfl)) (fun _ _ _ h => h) (Or.inr ⟨by rfl, rfl⟩) ?_ ?_
        rotate_left
        · simp only [Act.put, zA, zZ, zS, i64_w, i32_w]
          rfl
        refine pure_ (i := 40) (N := some 366) (v := undef) (a' := ?_) (zF 42 2199023255551) rfl rfl (any_of HT_.out (by kernel_rfl)) (fun _ _ _ h => h) (Or.inr ⟨by rfl, rfl⟩) ?_ ?_
        rotate_left
        · simp only [Act.put, zA, zZ, zS, i64_w, i32_w]
          rfl
        refine pure_ (i := 41) (N := some 367) (v := ?_) (a' := ?_) (zF 42 4398046511103) rfl rfl (any_of HT_.out (by kernel_rfl)) (fun _ _ _ h => h) (Or.inl ⟨by rfl, ?_⟩) ?_ ?_
        rotate_left; (intro w'; go_simp; with_reducible rfl); rotate_left; (simp only [Act.put, zA, zZ, zS, i64_w, i32_w]; rfl)
        refine done_ (done_of HT_.out (by kernel_rfl)) ?_
        clear hHeld
        go_wp2
        go_meet
        case rel => exact ⟨by rw [HT2.out], ⟨H2d.out⟩⟩
      · have tl : decide ((pl : Int) < (n : Int) - 1) = false := decide_eq_false (by omega)
        have htq : tq = false := by rw [HTQ.out]; unfold pdq; exact decide_eq_false (by show ¬ ((0 < pl ∧ pl + 1 < n) ∨ (pl = 0 ∧ 0 < n ∧ ps.getD 0 0 ≠ 2147483647)); omega)
        have HT2 := Aside0.mk htq
        clear htq
        refine start_ (n := 42) (S := (fun w' => w'.cell? ⟨g, 9, none⟩ = some (.slice (some ⟨gp, 0, none⟩) n n) ∧ w'.cell? ⟨g, 12, none⟩ = some (.int .i64 (pl : Int)))) (ds := []) #[false, false, false, false, false, false, false, false, false, false, false, false, false, false, false, false, false, false, false, false, false, false, false, false, false, false, false, false, false, false, false, false, false, false, false, false, false, false, false, false, false, false] (by kernel_rfl) rfl rfl ⟨H1.out.c9, H1.out.c12⟩ (fun hHeld => ?_)
        refine with_tabW d52_tab d52_bits (fun HT_ HW_ => ?_)
        have H2d := Aside0.mk (show PV hs B w0 w1.drew g gp gd n m ⟨ps, da, dl, pl, cmd, st⟩ from H1.out.drew)
        clear H1
        generalize w1.drew = w2d at H2d hHeld ⊢
        refine pure_ (i := 0) (N := some 326) (v := ?_) (a' := ?_) (zF 42 1) rfl rfl (any_of HT_.out (by kernel_rfl)) (fun _ _ _ h => h) (Or.inl ⟨by rfl, ?_⟩) ?_ ?_
        rotate_left; (intro w'; go_simp; with_reducible rfl); rotate_left; (simp only [Act.put, zA, zZ, zS, i64_w, i32_w]; rfl)
        refine pure_ (i := 1) (N := some 327) (v := ?_) (a' := ?_) (zF 42 3) rfl rfl (any_of HT_.out (by kernel_rfl)) (fun _ _ _ h => h) (Or.inl ⟨by rfl, ?_⟩) ?_ ?_
        rotate_left; (intro w'; go_simp; with_reducible rfl); rotate_left; (simp only [Act.put, zA, zZ, zS, i64_w, i32_w]; rfl)
        refine pure_ (i := 2) (N := some 328) (v := ?_) (a' := ?_) (zF 42 7) rfl rfl (any_of HT_.out (by kernel_rfl)) (fun _ _ _ h => h) (Or.inl ⟨by rfl, ?_⟩) ?_ ?_
        rotate_left; (intro w'; go_simp; with_reducible rfl); rotate_left; (simp only [Act.put, zA, zZ, zS, i64_w, i32_w]; rfl)
        refine take_ (i := 3) (N := some 329) (v := ?_) (a' := ?_) (zF 42 15) rfl rfl (take_ofW HT_.out HW_.out (by kernel_rfl)) (fun _ _ _ h => h) (Or.inl ⟨by rfl, ?_⟩) hHeld ?_ ?_
        rotate_left; (rintro w' ⟨s0, s1⟩; go_simp; with_reducible rfl); rotate_left; (simp only [Act.put, zA, zZ, zS, i64_w, i32_w]; rfl)
        refine pure_ (i := 4) (N := some 330) (v := ?_) (a' := ?_) (zF 42 31) rfl rfl (any_of HT_.out (by kernel_rfl)) (fun _ _ _ h => h) (Or.inl ⟨by rfl, ?_⟩) ?_ ?_
        rotate_left; (intro w'; go_simp; with_reducible rfl); rotate_left; (simp only [Act.put, zA, zZ, zS, i64_w, i32_w]; rfl)
        refine pure_ (i := 5) (N := some 331) (v := ?_) (a' := ?_) (zF 42 63) rfl rfl (any_of HT_.out (by kernel_rfl)) (fun _ _ _ h => h) (Or.inl ⟨by rfl, ?_⟩) ?_ ?_
        rotate_left; (intro w'; go_simp; with_reducible rfl); rotate_left; (simp only [Act.put, zA, zZ, zS, i64_w, i32_w]; rfl)
        refine pure_ (i := 6) (N := some 332) (v := ?_) (a' := ?_) (zF 42 127) rfl rfl (any_of HT_.out (by kernel_rfl)) (fun _ _ _ h => h) (Or.inl ⟨by rfl, ?_⟩) ?_ ?_
        rotate_left; (intro w'; go_simp; with_reducible rfl); rotate_left; (simp only [Act.put, zA, zZ, zS, i64_w, i32_w]; rfl)
        refine pure_ (i := 7) (N := some 333) (v := ?_) (a' := ?_) (zF 42 255) rfl rfl (any_of HT_.out (by kernel_rfl)) (fun _ _ _ h => h) (Or.inl ⟨by rfl, ?_⟩) ?_ ?_
        rotate_left; (intro w'; go_simp; with_reducible rfl); rotate_left; (simp only [Act.put, zA, zZ, zS, i64_w, i32_w]; rfl)
        refine pure_ (i := 8) (N := some 334) (v := ?_) (a' := ?_) (zF 42 511) rfl rfl (any_of HT_.out (by kernel_rfl)) (fun _ _ _ h => h) (Or.inl ⟨by rfl, ?_⟩) ?_ ?_
        rotate_left; (intro w'; go_simp; with_reducible rfl); rotate_left; (simp only [Act.put, zA, zZ, zS, i64_w, i32_w]; rfl)
        refine pure_ (i := 10) (N := some 336) (v := ?_) (a' := ?_) (zF 42 1535) rfl rfl (any_of HT_.out (by kernel_rfl)) (fun _ _ _ h => h) (Or.inl ⟨by rfl, ?_⟩) ?_ ?_
        rotate_left; (intro w'; go_simp; with_reducible rfl); rotate_left; (simp only [Act.put, zA, zZ, zS, i64_w, i32_w]; rfl)
        refine pure_ (i := 11) (N := some 337) (v := ?_) (a' := ?_) (zF 42 3583) rfl rfl (any_of HT_.out (by kernel_rfl)) (fun _ _ _ h => h) (Or.inl ⟨by rfl, ?_⟩) ?_ ?_
        rotate_left; (intro w'; go_simp; with_reducible rfl); rotate_left; (simp only [Act.put, zA, zZ, zS, i64_w, i32_w]; rfl)
        refine pure_ (i := 12) (N := some 338) (v := ?_) (a' := ?_) (zF 42 7679) rfl rfl (any_of HT_.out (by kernel_rfl)) (fun _ _ _ h => h) (Or.inl ⟨by rfl, ?_⟩) ?_ ?_
        rotate_left; (intro w'; go_simp; with_reducible rfl); rotate_left; (simp only [Act.put, zA, zZ, zS, i64_w, i32_w]; rfl)
        refine take_ (i := 9) (N := some 335) (v := ?_) (a' := ?_) (zF 42 8191) rfl rfl (take_ofW HT_.out HW_.out (by kernel_rfl)) (fun _ _ _ h => h) (Or.inl ⟨by rfl, ?_⟩) hHeld ?_ ?_
        rotate_left; (rintro w' ⟨s0, s1⟩; go_simp; with_reducible rfl); rotate_left; (simp only [Act.put, zA, zZ, zS, i64_w, i32_w]; rfl)
        refine take_ (i := 13) (N := some 339) (v := ?_) (a' := ?_) (zF 42 16383) rfl rfl (take_ofW HT_.out HW_.out (by kernel_rfl)) (fun _ _ _ h => h) (Or.inl ⟨by rfl, ?_⟩) hHeld ?_ ?_
        rotate_left; (rintro w' ⟨s0, s1⟩; go_simp; with_reducible rfl); rotate_left; (simp only [Act.put, zA, zZ, zS, i64_w, i32_w]; rfl)
        refine pure_ (i := 14) (N := some 340) (v := ?_) (a' := ?_) (zF 42 32767) rfl rfl (any_of HT_.out (by kernel_rfl)) (fun _ _ _ h => h) (Or.inl ⟨by rfl, ?_⟩) ?_ ?_
        rotate_left; (intro w'; go_simp; with_reducible rfl); rotate_left; (simp only [Act.put, zA, zZ, zS, i64_w, i32_w]; rfl)
        refine pure_ (i := 15) (N := some 341) (v := ?_) (a' := ?_) (zF 42 65535) rfl rfl (any_of HT_.out (by kernel_rfl)) (fun _ _ _ h => h) (Or.inl ⟨by rfl, ?_⟩) ?_ ?_
        rotate_left; (intro w'; go_simp; with_reducible rfl); rotate_left; (simp only [Act.put, zA, zZ, zS, i64_w, i32_w]; rfl)
        refine pure_ (i := 16) (N := some 342) (v := ?_) (a' := ?_) (zF 42 131071) rfl rfl (any_of HT_.out (by kernel_rfl)) (fun _ _ _ h => h) (Or.inl ⟨by rfl, ?_⟩) ?_ ?_
        rotate_left; (intro w'; go_simp; with_reducible rfl); rotate_left; (simp only [Act.put, zA, zZ, zS, i64_w, i32_w]; rfl)
        refine pure_ (i := 17) (N := some 343) (v := ?_) (a' := ?_) (zF 42 262143) rfl rfl (any_of HT_.out (by kernel_rfl)) (fun _ _ _ h => h) (Or.inl ⟨by rfl, ?_⟩) ?_ ?_
        rotate_left; (intro w'; go_simp; with_reducible rfl); rotate_left; (simp only [Act.put, zA, zZ, zS, i64_w, i32_w]; rfl)
        refine pure_ (i := 18) (N := some 344) (v := ?_) (a' := ?_) (zF 42 524287) rfl rfl (any_of HT_.out (by kernel_rfl)) (fun _ _ _ h => h) (Or.inl ⟨by rfl, ?_⟩) ?_ ?_
        rotate_left; (intro w'; go_simp; with_reducible rfl); rotate_left; (simp only [Act.put, zA, zZ, zS, i64_w, i32_w]; rfl)
        refine pure_ (i := 19) (N := some 345) (v := ?_) (a' := ?_) (zF 42 1048575) rfl rfl (any_of HT_.out (by kernel_rfl)) (fun _ _ _ h => h) (Or.inl ⟨by rfl, ?_⟩) ?_ ?_
        rotate_left; (intro w'; go_simp; with_reducible rfl); rotate_left; (simp only [Act.put, zA, zZ, zS, i64_w, i32_w]; rfl)
        refine pure_ (i := 20) (N := some 346) (v := ?_) (a' := ?_) (zF 42 2097151) rfl rfl (any_of HT_.out (by kernel_rfl)) (fun _ _ _ h => h) (Or.inl ⟨by rfl, ?_⟩) ?_ ?_
        rotate_left; (intro w'; go_simp; with_reducible rfl); rotate_left; (simp only [Act.put, zA, zZ, zS, i64_w, i32_w]; rfl)
        refine pure_ (i := 21) (N := some 347) (v := ?_) (a' := ?_) (zF 42 4194303) rfl rfl (any_of HT_.out (by kernel_rfl)) (fun _ _ _ h => h) (Or.inl ⟨by rfl, ?_⟩) ?_ ?_
        rotate_left; (intro w'; go_simp; with_reducible rfl); rotate_left; (simp only [Act.put, zA, zZ, zS, i64_w, i32_w]; rfl)
        refine take_ (i := 22) (N := some 348) (v := ?_) (a' := ?_) (zF 42 8388607) rfl rfl (take_ofW HT_.out HW_.out (by kernel_rfl)) (fun _ _ _ h => h) (Or.inl ⟨by rfl, ?_⟩) hHeld ?_ ?_
        rotate_left; (rintro w' ⟨s0, s1⟩; go_simp; with_reducible rfl); rotate_left; (simp only [Act.put, zA, zZ, zS, i64_w, i32_w]; rfl)
        refine pure_ (i := 23) (N := some 349) (v := ?_) (a' := ?_) (zF 42 16777215) rfl rfl (any_of HT_.out (by kernel_rfl)) (fun _ _ _ h => h) (Or.inl ⟨by rfl, ?_⟩) ?_ ?_
        rotate_left; (intro w'; go_simp; with_reducible rfl); rotate_left; (simp only [Act.put, zA, zZ, zS, i64_w, i32_w]; rfl)
        refine pure_ (i := 24) (N := some 350) (v := ?_) (a' := ?_) (zF 42 33554431) rfl rfl (any_of HT_.out (by kernel_rfl)) (fun _ _ _ h => h) (Or.inl ⟨by rfl, ?_⟩) ?_ ?_
        rotate_left; (intro w'; go_simp; with_reducible rfl); rotate_left; (simp only [Act.put, zA, zZ, zS, i64_w, i32_w]; rfl)
        refine pure_ (i := 25) (N := some 351) (v := undef) (a' := ?_) (zF 42 67108863) rfl rfl (any_of HT_.out (by kernel_rfl)) (fun _ _ _ h => h) (Or.inr ⟨by rfl, rfl⟩) ?_ ?_
        rotate_left
        · simp only [Act.put, zA, zZ, zS, i64_w, i32_w]
          rfl
        refine pure_ (i := 26) (N := some 352) (v := undef) (a' := ?_) (zF 42 134217727) rfl rfl (any_of HT_.out (by kernel_rfl)) (fun _ _ _ h => h) (Or.inr ⟨by rfl, rfl⟩) ?_ ?_
        rotate_left
        · simp only [Act.put, zA, zZ, zS, i64_w, i32_w]
          rfl
        refine pure_ (i := 27) (N := some 353) (v := undef) (a' := ?_) (zF 42 268435455) rfl rfl (any_of HT_.out (by kernel_rfl)) (fun _ _ _ h => h) (Or.inr ⟨by rfl, rfl⟩) ?_ ?_
        rotate_left
        · simp only [Act.put, zA, zZ, zS, i64_w, i32_w]
          rfl
        refine pure_ (i := 28) (N := some 354) (v := undef) (a' := ?_) (zF 42 536870911) rfl rfl (any_of HT_.out (by kernel_rfl)) (fun _ _ _ h => h) (Or.inr ⟨by rfl, rfl⟩) ?_ ?_
        rotate_left
        · simp only [Act.put, zA, zZ, zS, i64_w, i32_w]
          rfl
        refine pure_ (i := 29) (N := some 355) (v := undef) (a' := ?_) (zF 42 1073741823) rfl rfl (any_of HT_.out (by kernel_rfl)) (fun _ _ _ h => h) (Or.inr ⟨by rfl, rfl⟩) ?_ ?_
        rotate_left
        · simp only [Act.put, zA, zZ, zS, i64_w, i32_w]
          rfl
        refine pure_ (i := 30) (N := some 356) (v := undef) (a' := ?_) (zF 42 2147483647) rfl rfl (any_of HT_.out (by kernel_rfl)) (fun _ _ _ h => h) (Or.inr ⟨by rfl, rfl⟩) ?_ ?_
        rotate_left
        · simp only [Act.put, zA, zZ, zS, i64_w, i32_w]
          rfl
        refine pure_ (i := 31) (N := some 357) (v := ?_) (a' := ?_) (zF 42 4294967295) rfl rfl (any_of HT_.out (by kernel_rfl)) (fun _ _ _ h => h) (Or.inl ⟨by rfl, ?_⟩) ?_ ?_
        rotate_left; (intro w'; go_simp; with_reducible rfl); rotate_left; (simp only [Act.put, zA, zZ, zS, i64_w, i32_w]; rfl)
        refine pure_ (i := 32) (N := some 358) (v := ?_) (a' := ?_) (zF 42 8589934591) rfl rfl (any_of HT_.out (by kernel_rfl)) (fun _ _ _ h => h) (Or.inl ⟨by rfl, ?_⟩) ?_ ?_
        rotate_left; (intro w'; go_simp; with_reducible rfl); rotate_left; (simp only [Act.put, zA, zZ, zS, i64_w, i32_w]; rfl)
        refine pure_ (i := 33) (N := some 359) (v := undef) (a' := ?_) (zF 42 17179869183) rfl rfl (any_of HT_.out (by kernel_rfl)) (fun _ _ _ h => h) (Or.inr ⟨by rfl, rfl⟩) ?_ ?_
        rotate_left
        · simp only [Act.put, zA, zZ, zS, i64_w, i32_w]
          rfl
        refine pure_ (i := 34) (N := some 360) (v := undef) (a' := ?_) (zF 42 34359738367) rfl rfl (any_of HT_.out (by kernel_rfl)) (fun _ _ _ h => h) (Or.inr ⟨by rfl, rfl⟩) ?_ ?_
        rotate_left
        · simp only [Act.put, zA, zZ, zS, i64_w, i32_w]
          rfl
        refine pure_ (i := 35) (N := some 361) (v := undef) (a' := ?_) (zF 42 68719476735) rfl rfl (any_of HT_.out (by kernel_rfl)) (fun _ _ _ h => h) (Or.inr ⟨by rfl, rfl⟩) ?_ ?_
        rotate_left
        · simp only [Act.put, zA, zZ, zS, i64_w, i32_w]
          rfl
        refine pure_ (i := 36) (N := some 362) (v := undef) (a' := ?_) (zF 42 137438953471) rfl rfl (any_of HT_.out (by kernel_rfl)) (fun _ _ _ h => h) (Or.inr ⟨by rfl, rfl⟩) ?_ ?_
        rotate_left
        · simp only [Act.put, zA, zZ, zS, i64_w, i32_w]
          rfl
        refine pure_ (i := 37) (N := some 363) (v := undef) (a' := ?_) (zF 42 274877906943) rfl rfl (any_of HT_.out (by kernel_rfl)) (fun _ _ _ h => h) (Or.inr ⟨by rfl, rfl⟩) ?_ ?_
        rotate_left
        · simp only [Act.put, zA, zZ, zS, i64_w, i32_w]
          rfl
        refine pure_ (i := 38) (N := some 364) (v := undef) (a' := ?_) (zF 42 549755813887) rfl rfl (any_of HT_.out (by kernel_rfl)) (fun _ _ _ h => h) (Or.inr ⟨by rfl, rfl⟩) ?_ ?_
        rotate_left
        · simp only [Act.put, zA, zZ, zS, i64_w, i32_w]
          rfl
        refine pure_ (i := 39) (N := some 365) (v := undef) (a' := ?_) (zF 42 1099511627775) rfl rfl (any_of HT_.out (by kernel_rfl)) (fun _ _ _ h => h) (Or.inr ⟨by rfl, rfl⟩) ?_ ?_
        rotate_left
        · simp only [Act.put, zA, zZ, zS, i64_w, i32_w]
          rfl
        refine pure_ (i := 40) (N := some 366) (v := ?_) (a' := ?_) (zF 42 2199023255551) rfl rfl (any_of HT_.out (by kernel_rfl)) (fun _ _ _ h => h) (Or.inl ⟨by rfl, ?_⟩) ?_ ?_
        rotate_left; (intro w'; go_simp; with_reducible rfl); rotate_left; (simp only [Act.put, zA, zZ, zS, i64_w, i32_w]; rfl)
        refine pure_ (i := 41) (N := some 367) (v := ?_) (a' := ?_) (zF 42 4398046511103) rfl rfl (any_of HT_.out (by kernel_rfl)) (fun _ _ _ h => h) (Or.inl ⟨by rfl, ?_⟩) ?_ ?_
        rotate_left; (intro w'; go_simp; with_reducible rfl); rotate_left; (simp only [Act.put, zA, zZ, zS, i64_w, i32_w]; rfl)
        refine done_ (done_of HT_.out (by kernel_rfl)) ?_
        clear hHeld
        go_wp2
        go_meet
        case rel => exact ⟨by rw [HT2.out], ⟨H2d.out⟩⟩
    · obtain rfl : pl = 0 := by omega
      by_cases hn0 : 0 < n
      · have tn0 : decide ((0 : Int) < (n : Int)) = true := decide_eq_true (by omega)
        have q1 : (0 : Int) < (n : Int) := by omega
        have HN0 := Aside0.mk hn0
        obtain ⟨x, hx⟩ : ∃ x, x = ps.getD 0 0 := ⟨_, rfl⟩
        have HX := Aside0.mk hx
        by_cases hxm : x = 2147483647
        · have tx : (x != 2147483647) = false := by simpa using hxm
          have htq : tq = false := by rw [HTQ.out]; unfold pdq; exact decide_eq_false (fun h => h.elim (fun h => absurd h.1 (Nat.lt_irrefl 0)) (fun h => h.2.2 (hx.symm.trans hxm)))
          have HT2 := Aside0.mk htq
          clear htq hx hxm
          refine start_ (n := 42) (S := (fun w' => w'.cell? ⟨g, 9, none⟩ = some (.slice (some ⟨gp, 0, none⟩) n n) ∧ w'.cell? ⟨g, 12, none⟩ = some (.int .i64 0) ∧ w'.cell? ⟨gp, 0, none⟩ = some (.int .i64 x))) (ds := []) #[false, false, false, false, false, false, false, false, false, false, false, false, false, false, false, false, false, false, false, false, false, false, false, false, false, false, false, false, false, false, false, false, false, false, false, false, false, false, false, false, false, false] (by kernel_rfl) rfl rfl ⟨H1.out.c9, H1.out.c12, H1.out.cpx HN0.out HX.out⟩ (fun hHeld => ?_)
          refine with_tabW d52_tab d52_bits (fun HT_ HW_ => ?_)
          have H2d := Aside0.mk (show PV hs B w0 w1.drew g gp gd n m ⟨ps, da, dl, 0, cmd, st⟩ from H1.out.drew)
          clear H1
          generalize w1.drew = w2d at H2d hHeld ⊢
          refine pure_ (i := 0) (N := some 326) (v := ?_) (a' := ?_) (zF 42 1) rfl rfl (any_of HT_.out (by kernel_rfl)) (fun _ _ _ h => h) (Or.inl ⟨by rfl, ?_⟩) ?_ ?_
          rotate_left; (intro w'; go_simp; with_reducible rfl); rotate_left; (simp only [Act.put, zA, zZ, zS, i64_w, i32_w]; rfl)
          refine pure_ (i := 1) (N := some 327) (v := ?_) (a' := ?_) (zF 42 3) rfl rfl (any_of HT_.out (by kernel_rfl)) (fun _ _ _ h => h) (Or.inl ⟨by rfl, ?_⟩) ?_ ?_
          rotate_left; (intro w'; go_simp; with_reducible rfl); rotate_left; (simp only [Act.put, zA, zZ, zS, i64_w, i32_w]; rfl)
          refine pure_ (i := 2) (N := some 328) (v := ?_) (a' := ?_) (zF 42 7) rfl rfl (any_of HT_.out (by kernel_rfl)) (fun _ _ _ h => h) (Or.inl ⟨by rfl, ?_⟩) ?_ ?_
          rotate_left; (intro w'; go_simp; with_reducible rfl); rotate_left; (simp only [Act.put, zA, zZ, zS, i64_w, i32_w]; rfl)
          refine take_ (i := 3) (N := some 329) (v := ?_) (a' := ?_) (zF 42 15) rfl rfl (take_ofW HT_.out HW_.out (by kernel_rfl)) (fun _ _ _ h => h) (Or.inl ⟨by rfl, ?_⟩) hHeld ?_ ?_
          rotate_left; (rintro w' ⟨s0, s1, s2⟩; go_simp; with_reducible rfl); rotate_left; (simp only [Act.put, zA, zZ, zS, i64_w, i32_w]; rfl)
          refine pure_ (i := 4) (N := some 330) (v := ?_) (a' := ?_) (zF 42 31) rfl rfl (any_of HT_.out (by kernel_rfl)) (fun _ _ _ h => h) (Or.inl ⟨by rfl, ?_⟩) ?_ ?_
          rotate_left; (intro w'; go_simp; with_reducible rfl); rotate_left; (simp only [Act.put, zA, zZ, zS, i64_w, i32_w]; rfl)
          refine pure_ (i := 5) (N := some 331) (v := ?_) (a' := ?_) (zF 42 63) rfl rfl (any_of HT_.out (by kernel_rfl)) (fun _ _ _ h => h) (Or.inl ⟨by rfl, ?_⟩) ?_ ?_
          rotate_left; (intro w'; go_simp; with_reducible rfl); rotate_left; (simp only [Act.put, zA, zZ, zS, i64_w, i32_w]; rfl)
          refine pure_ (i := 6) (N := some 332) (v := undef) (a' := ?_) (zF 42 127) rfl rfl (any_of HT_.out (by kernel_rfl)) (fun _ _ _ h => h) (Or.inr ⟨by rfl, rfl⟩) ?_ ?_
          rotate_left
          · simp only [Act.put, zA, zZ, zS, i64_w, i32_w]
            rfl
          refine pure_ (i := 7) (N := some 333) (v := undef) (a' := ?_) (zF 42 255) rfl rfl (any_of HT_.out (by kernel_rfl)) (fun _ _ _ h => h) (Or.inr ⟨by rfl, rfl⟩) ?_ ?_
          rotate_left
          · simp only [Act.put, zA, zZ, zS, i64_w, i32_w]
            rfl
          refine pure_ (i := 8) (N := some 334) (v := undef) (a' := ?_) (zF 42 511) rfl rfl (any_of HT_.out (by kernel_rfl)) (fun _ _ _ h => h) (Or.inr ⟨by rfl, rfl⟩) ?_ ?_
          rotate_left
          · simp only [Act.put, zA, zZ, zS, i64_w, i32_w]
            rfl
          refine pure_ (i := 9) (N := some 335) (v := undef) (a' := ?_) (zF 42 1023) rfl rfl (any_of HT_.out (by kernel_rfl)) (fun _ _ _ h => h) (Or.inr ⟨by rfl, rfl⟩) ?_ ?_
          rotate_left
          · simp only [Act.put, zA, zZ, zS, i64_w, i32_w]
            rfl
          refine pure_ (i := 10) (N := some 336) (v := undef) (a' := ?_) (zF 42 2047) rfl rfl (any_of HT_.out (by kernel_rfl)) (fun _ _ _ h => h) (Or.inr ⟨by rfl, rfl⟩) ?_ ?_
          rotate_left
          · simp only [Act.put, zA, zZ, zS, i64_w, i32_w]
            rfl
          refine pure_ (i := 11) (N := some 337) (v := undef) (a' := ?_) (zF 42 4095) rfl rfl (any_of HT_.out (by kernel_rfl)) (fun _ _ _ h => h) (Or.inr ⟨by rfl, rfl⟩) ?_ ?_
          rotate_left
          · simp only [Act.put, zA, zZ, zS, i64_w, i32_w]
            rfl
          refine pure_ (i := 12) (N := some 338) (v := undef) (a' := ?_) (zF 42 8191) rfl rfl (any_of HT_.out (by kernel_rfl)) (fun _ _ _ h => h) (Or.inr ⟨by rfl, rfl⟩) ?_ ?_
          rotate_left
          · simp only [Act.put, zA, zZ, zS, i64_w, i32_w]
            rfl
          refine pure_ (i := 13) (N := some 339) (v := undef) (a' := ?_) (zF 42 16383) rfl rfl (any_of HT_.out (by kernel_rfl)) (fun _ _ _ h => h) (Or.inr ⟨by rfl, rfl⟩) ?_ ?_
          rotate_left
          · simp only [Act.put, zA, zZ, zS, i64_w, i32_w]
            rfl
          refine pure_ (i := 14) (N := some 340) (v := undef) (a' := ?_) (zF 42 32767) rfl rfl (any_of HT_.out (by kernel_rfl)) (fun _ _ _ h => h) (Or.inr ⟨by rfl, rfl⟩) ?_ ?_
          rotate_left
          · simp only [Act.put, zA, zZ, zS, i64_w, i32_w]
            rfl
          refine pure_ (i := 15) (N := some 341) (v := undef) (a' := ?_) (zF 42 65535) rfl rfl (any_of HT_.out (by kernel_rfl)) (fun _ _ _ h => h) (Or.inr ⟨by rfl, rfl⟩) ?_ ?_
          rotate_left
          · simp only [Act.put, zA, zZ, zS, i64_w, i32_w]
            rfl
          refine pure_ (i := 16) (N := some 342) (v := undef) (a' := ?_) (zF 42 131071) rfl rfl (any_of HT_.out (by kernel_rfl)) (fun _ _ _ h => h) (Or.inr ⟨by rfl, rfl⟩) ?_ ?_
          rotate_left
          · simp only [Act.put, zA, zZ, zS, i64_w, i32_w]
            rfl
          refine pure_ (i := 17) (N := some 343) (v := ?_) (a' := ?_) (zF 42 262143) rfl rfl (any_of HT_.out (by kernel_rfl)) (fun _ _ _ h => h) (Or.inl ⟨by rfl, ?_⟩) ?_ ?_
          rotate_left; (intro w'; go_simp; with_reducible rfl); rotate_left; (simp only [Act.put, zA, zZ, zS, i64_w, i32_w]; rfl)
          refine pure_ (i := 18) (N := some 344) (v := ?_) (a' := ?_) (zF 42 524287) rfl rfl (any_of HT_.out (by kernel_rfl)) (fun _ _ _ h => h) (Or.inl ⟨by rfl, ?_⟩) ?_ ?_
          rotate_left; (intro w'; go_simp; with_reducible rfl); rotate_left; (simp only [Act.put, zA, zZ, zS, i64_w, i32_w]; rfl)
          refine pure_ (i := 19) (N := some 345) (v := ?_) (a' := ?_) (zF 42 1048575) rfl rfl (any_of HT_.out (by kernel_rfl)) (fun _ _ _ h => h) (Or.inl ⟨by rfl, ?_⟩) ?_ ?_
          rotate_left; (intro w'; go_simp; with_reducible rfl); rotate_left; (simp only [Act.put, zA, zZ, zS, i64_w, i32_w]; rfl)
          refine pure_ (i := 20) (N := some 346) (v := ?_) (a' := ?_) (zF 42 2097151) rfl rfl (any_of HT_.out (by kernel_rfl)) (fun _ _ _ h => h) (Or.inl ⟨by rfl, ?_⟩) ?_ ?_
          rotate_left; (intro w'; go_simp; with_reducible rfl); rotate_left; (simp only [Act.put, zA, zZ, zS, i64_w, i32_w]; rfl)
          refine pure_ (i := 21) (N := some 347) (v := ?_) (a' := ?_) (zF 42 4194303) rfl rfl (any_of HT_.out (by kernel_rfl)) (fun _ _ _ h => h) (Or.inl ⟨by rfl, ?_⟩) ?_ ?_
          rotate_left; (intro w'; go_simp; with_reducible rfl); rotate_left; (simp only [Act.put, zA, zZ, zS, i64_w, i32_w]; rfl)
          refine take_ (i := 22) (N := some 348) (v := ?_) (a' := ?_) (zF 42 8388607) rfl rfl (take_ofW HT_.out HW_.out (by kernel_rfl)) (fun _ _ _ h => h) (Or.inl ⟨by rfl, ?_⟩) hHeld ?_ ?_
          rotate_left; (rintro w' ⟨s0, s1, s2⟩; go_simp; with_reducible rfl); rotate_left; (simp only [Act.put, zA, zZ, zS, i64_w, i32_w]; rfl)
          refine pure_ (i := 23) (N := some 349) (v := ?_) (a' := ?_) (zF 42 16777215) rfl rfl (any_of HT_.out (by kernel_rfl)) (fun _ _ _ h => h) (Or.inl ⟨by rfl, ?_⟩) ?_ ?_
          rotate_left; (intro w'; go_simp; with_reducible rfl); rotate_left; (simp only [Act.put, zA, zZ, zS, i64_w, i32_w]; rfl)
          refine pure_ (i := 24) (N := some 350) (v := ?_) (a' := ?_) (zF 42 33554431) rfl rfl (any_of HT_.out (by kernel_rfl)) (fun _ _ _ h => h) (Or.inl ⟨by rfl, ?_⟩) ?_ ?_
          rotate_left; (intro w'; go_simp; with_reducible rfl); rotate_left; (simp only [Act.put, zA, zZ, zS, i64_w, i32_w]; rfl)
          refine pure_ (i := 25) (N := some 351) (v := ?_) (a' := ?_) (zF 42 67108863) rfl rfl (any_of HT_.out (by kernel_rfl)) (fun _ _ _ h => h) (Or.inl ⟨by rfl, ?_⟩) ?_ ?_
          rotate_left; (intro w'; go_simp; with_reducible rfl); rotate_left; (simp only [Act.put, zA, zZ, zS, i64_w, i32_w]; rfl)
          refine pure_ (i := 26) (N := some 352) (v := ?_) (a' := ?_) (zF 42 134217727) rfl rfl (any_of HT_.out (by kernel_rfl)) (fun _ _ _ h => h) (Or.inl ⟨by rfl, ?_⟩) ?_ ?_
          rotate_left; (intro w'; go_simp; with_reducible rfl); rotate_left; (simp only [Act.put, zA, zZ, zS, i64_w, i32_w]; rfl)
          refine pure_ (i := 27) (N := some 353) (v := ?_) (a' := ?_) (zF 42 268435455) rfl rfl (any_of HT_.out (by kernel_rfl)) (fun _ _ _ h => h) (Or.inl ⟨by rfl, ?_⟩) ?_ ?_
          rotate_left; (intro w'; go_simp; with_reducible rfl); rotate_left; (simp only [Act.put, zA, zZ, zS, i64_w, i32_w]; rfl)
          refine take_ (i := 28) (N := some 354) (v := ?_) (a' := ?_) (zF 42 536870911) rfl rfl (take_ofW HT_.out HW_.out (by kernel_rfl)) (fun _ _ _ h => h) (Or.inl ⟨by rfl, ?_⟩) hHeld ?_ ?_
          rotate_left; (rintro w' ⟨s0, s1, s2⟩; go_simp; with_reducible rfl); rotate_left; (simp only [Act.put, zA, zZ, zS, i64_w, i32_w]; rfl)
          refine pure_ (i := 29) (N := some 355) (v := ?_) (a' := ?_) (zF 42 1073741823) rfl rfl (any_of HT_.out (by kernel_rfl)) (fun _ _ _ h => h) (Or.inl ⟨by rfl, ?_⟩) ?_ ?_
          rotate_left; (intro w'; go_simp; with_reducible rfl); rotate_left; (simp only [Act.put, zA, zZ, zS, i64_w, i32_w]; rfl)
          refine pure_ (i := 30) (N := some 356) (v := ?_) (a' := ?_) (zF 42 2147483647) rfl rfl (any_of HT_.out (by kernel_rfl)) (fun _ _ _ h => h) (Or.inl ⟨by rfl, ?_⟩) ?_ ?_
          rotate_left; (intro w'; go_simp; with_reducible rfl); rotate_left; (simp only [Act.put, zA, zZ, zS, i64_w, i32_w]; rfl)
          refine pure_ (i := 31) (N := some 357) (v := ?_) (a' := ?_) (zF 42 4294967295) rfl rfl (any_of HT_.out (by kernel_rfl)) (fun _ _ _ h => h) (Or.inl ⟨by rfl, ?_⟩) ?_ ?_
          rotate_left; (intro w'; go_simp; with_reducible rfl); rotate_left; (simp only [Act.put, zA, zZ, zS, i64_w, i32_w]; rfl)
          refine pure_ (i := 32) (N := some 358) (v := ?_) (a' := ?_) (zF 42 8589934591) rfl rfl (any_of HT_.out (by kernel_rfl)) (fun _ _ _ h => h) (Or.inl ⟨by rfl, ?_⟩) ?_ ?_
          rotate_left; (intro w'; go_simp; with_reducible rfl); rotate_left; (simp only [Act.put, zA, zZ, zS, i64_w, i32_w]; rfl)
          refine pure_ (i := 33) (N := some 359) (v := ?_) (a' := ?_) (zF 42 17179869183) rfl rfl (any_of HT_.out (by kernel_rfl)) (fun _ _ _ h => h) (Or.inl ⟨by rfl, ?_⟩) ?_ ?_
          rotate_left; (intro w'; go_simp; with_reducible rfl); rotate_left; (simp only [Act.put, zA, zZ, zS, i64_w, i32_w]; rfl)
          refine pure_ (i := 34) (N := some 360) (v := ?_) (a' := ?_) (zF 42 34359738367) rfl rfl (any_of HT_.out (by kernel_rfl)) (fun _ _ _ h => h) (Or.inl ⟨by rfl, ?_⟩) ?_ ?_
          rotate_left; (intro w'; go_simp; with_reducible rfl); rotate_left; (simp only [Act.put, zA, zZ, zS, i64_w, i32_w]; rfl)
          refine pure_ (i := 35) (N := some 361) (v := ?_) (a' := ?_) (zF 42 68719476735) rfl rfl (any_of HT_.out (by kernel_rfl)) (fun _ _ _ h => h) (Or.inl ⟨by rfl, ?_⟩) ?_ ?_
          rotate_left; (intro w'; go_simp; with_reducible rfl); rotate_left; (simp only [Act.put, zA, zZ, zS, i64_w, i32_w]; rfl)
          refine take_ (i := 36) (N := some 362) (v := ?_) (a' := ?_) (zF 42 137438953471) rfl rfl (take_ofW HT_.out HW_.out (by kernel_rfl)) (fun _ _ _ h => h) (Or.inl ⟨by rfl, ?_⟩) hHeld ?_ ?_
          rotate_left; (rintro w' ⟨s0, s1, s2⟩; go_simp; with_reducible rfl); rotate_left; (simp only [Act.put, zA, zZ, zS, i64_w, i32_w]; rfl)
          refine pure_ (i := 37) (N := some 363) (v := ?_) (a' := ?_) (zF 42 274877906943) rfl rfl (any_of HT_.out (by kernel_rfl)) (fun _ _ _ h => h) (Or.inl ⟨by rfl, ?_⟩) ?_ ?_
          rotate_left; (intro w'; go_simp; with_reducible rfl); rotate_left; (simp only [Act.put, zA, zZ, zS, i64_w, i32_w]; rfl)
          refine take_ (i := 38) (N := some 364) (v := ?_) (a' := ?_) (zF 42 549755813887) rfl rfl (take_ofW HT_.out HW_.out (by kernel_rfl)) (fun _ _ _ h => h) (Or.inl ⟨by rfl, ?_⟩) hHeld ?_ ?_
          rotate_left; (rintro w' ⟨s0, s1, s2⟩; go_simp; with_reducible rfl); rotate_left; (simp only [Act.put, zA, zZ, zS, i64_w, i32_w]; rfl)
          refine pure_ (i := 39) (N := some 365) (v := ?_) (a' := ?_) (zF 42 1099511627775) rfl rfl (any_of HT_.out (by kernel_rfl)) (fun _ _ _ h => h) (Or.inl ⟨by rfl, ?_⟩) ?_ ?_
          rotate_left; (intro w'; go_simp; with_reducible rfl); rotate_left; (simp only [Act.put, zA, zZ, zS, i64_w, i32_w]; rfl)
          refine pure_ (i := 40) (N := some 366) (v := ?_) (a' := ?_) (zF 42 2199023255551) rfl rfl (any_of HT_.out (by kernel_rfl)) (fun _ _ _ h => h) (Or.inl ⟨by rfl, ?_⟩) ?_ ?_
          rotate_left; (intro w'; go_simp; with_reducible rfl); rotate_left; (simp only [Act.put, zA, zZ, zS, i64_w, i32_w]; rfl)
          refine pure_ (i := 41) (N := some 367) (v := ?_) (a' := ?_) (zF 42 4398046511103) rfl rfl (any_of HT_.out (by kernel_rfl)) (fun _ _ _ h => h) (Or.inl ⟨by rfl, ?_⟩) ?_ ?_
          rotate_left; (intro w'; go_simp; with_reducible rfl); rotate_left; (simp only [Act.put, zA, zZ, zS, i64_w, i32_w]; rfl)
          refine done_ (done_of HT_.out (by kernel_rfl)) ?_
          clear hHeld
          go_wp2
          go_meet
          case rel => exact ⟨by rw [HT2.out], ⟨H2d.out⟩⟩
        · have tx : (x != 2147483647) = true := by simpa using hxm
          have htq : tq = true := by rw [HTQ.out]; unfold pdq; exact decide_eq_true (.inr ⟨rfl, hn0, by rw [← hx]; exact hxm⟩)
          have HT2 := Aside0.mk htq
          clear htq hx hxm
          refine start_ (n := 42) (S := (fun w' => w'.cell? ⟨g, 9, none⟩ = some (.slice (some ⟨gp, 0, none⟩) n n) ∧ w'.cell? ⟨g, 12, none⟩ = some (.int .i64 0) ∧ w'.cell? ⟨gp, 0, none⟩ = some (.int .i64 x))) (ds := []) #[false, false, false, false, false, false, false, false, false, false, false, false, false, false, false, false, false, false, false, false, false, false, false, false, false, false, false, false, false, false, false, false, false, false, false, false, false, false, false, false, false, false] (by kernel_rfl) rfl rfl ⟨H1.out.c9, H1.out.c12, H1.out.cpx HN0.out HX.out⟩ (fun hHeld => ?_)
          refine with_tabW d52_tab d52_bits (fun HT_ HW_ => ?_)
          have H2d := Aside0.mk (show PV hs B w0 w1.drew g gp gd n m ⟨ps, da, dl, 0, cmd, st⟩ from H1.out.drew)
          clear H1
          generalize w1.drew = w2d at H2d hHeld ⊢
          refine pure_ (i := 0) (N := some 326) (v := ?_) (a' := ?_) (zF 42 1) rfl rfl (any_of HT_.out (by kernel_rfl)) (fun _ _ _ h => h) (Or.inl ⟨by rfl, ?_⟩) ?_ ?_
          rotate_left; (intro w'; go_simp; with_reducible rfl); rotate_left; (simp only [Act.put, zA, zZ, zS, i64_w, i32_w]; rfl)
          refine pure_ (i := 1) (N := some 327) (v := ?_) (a' := ?_) (zF 42 3) rfl rfl (any_of HT_.out (by kernel_rfl)) (fun _ _ _ h => h) (Or.inl ⟨by rfl, ?_⟩) ?_ ?_
          rotate_left; (intro w'; go_simp; with_reducible rfl); rotate_left; (simp only [Act.put, zA, zZ, zS, i64_w, i32_w]; rfl)
          refine pure_ (i := 2) (N := some 328) (v := ?_) (a' := ?_) (zF 42 7) rfl rfl (any_of HT_.out (by kernel_rfl)) (fun _ _ _ h => h) (Or.inl ⟨by rfl, ?_⟩) ?_ ?_
          rotate_left; (intro w'; go_simp; with_reducible rfl); rotate_left; (simp only [Act.put, zA, zZ, zS, i64_w, i32_w]; rfl)
          refine take_ (i := 3) (N := some 329) (v := ?_) (a' := ?_) (zF 42 15) rfl rfl (take_ofW HT_.out HW_.out (by kernel_rfl)) (fun _ _ _ h => h) (Or.inl ⟨by rfl, ?_⟩) hHeld ?_ ?_
          rotate_left; (rintro w' ⟨s0, s1, s2⟩; go_simp; with_reducible rfl); rotate_left; (simp only [Act.put, zA, zZ, zS, i64_w, i32_w]; rfl)
          refine pure_ (i := 4) (N := some 330) (v := ?_) (a' := ?_) (zF 42 31) rfl rfl (any_of HT_.out (by kernel_rfl)) (fun _ _ _ h => h) (Or.inl ⟨by rfl, ?_⟩) ?_ ?_
          rotate_left; (intro w'; go_simp; with_reducible rfl); rotate_left; (simp only [Act.put, zA, zZ, zS, i64_w, i32_w]; rfl)
          refine pure_ (i := 5) (N := some 331) (v := ?_) (a' := ?_) (zF 42 63) rfl rfl (any_of HT_.out (by kernel_rfl)) (fun _ _ _ h => h) (Or.inl ⟨by rfl, ?_⟩) ?_ ?_
          rotate_left; (intro w'; go_simp; with_reducible rfl); rotate_left; (simp only [Act.put, zA, zZ, zS, i64_w, i32_w]; rfl)
          refine pure_ (i := 6) (N := some 332) (v := undef) (a' := ?_) (zF 42 127) rfl rfl (any_of HT_.out (by kernel_rfl)) (fun _ _ _ h => h) (Or.inr ⟨by rfl, rfl⟩) ?_ ?_
          rotate_left
          · simp only [Act.put, zA, zZ, zS, i64_w, i32_w]
            rfl
          refine pure_ (i := 7) (N := some 333) (v := undef) (a' := ?_) (zF 42 255) rfl rfl (any_of HT_.out (by kernel_rfl)) (fun _ _ _ h => h) (Or.inr ⟨by rfl, rfl⟩) ?_ ?_
          rotate_left
          · simp only [Act.put, zA, zZ, zS, i64_w, i32_w]
            rfl
          refine pure_ (i := 8) (N := some 334) (v := undef) (a' := ?_) (zF 42 511) rfl rfl (any_of HT_.out (by kernel_rfl)) (fun _ _ _ h => h) (Or.inr ⟨by rfl, rfl⟩) ?_ ?_
          rotate_left
          · simp only [Act.put, zA, zZ, zS, i64_w, i32_w]
            rfl
          refine pure_ (i := 9) (N := some 335) (v := undef) (a' := ?_) (zF 42 1023) rfl rfl (any_of HT_.out (by kernel_rfl)) (fun _ _ _ h => h) (Or.inr ⟨by rfl, rfl⟩) ?_ ?_
          rotate_left
          · simp only [Act.put, zA, zZ, zS, i64_w, i32_w]
            rfl
          refine pure_ (i := 10) (N := some 336) (v := undef) (a' := ?_) (zF 42 2047) rfl rfl (any_of HT_.out (by kernel_rfl)) (fun _ _ _ h => h) (Or.inr ⟨by rfl, rfl⟩) ?_ ?_
          rotate_left
          · simp only [Act.put, zA, zZ, zS, i64_w, i32_w]
            rfl
          refine pure_ (i := 11) (N := some 337) (v := undef) (a' := ?_) (zF 42 4095) rfl rfl (any_of HT_.out (by kernel_rfl)) (fun _ _ _ h => h) (Or.inr ⟨by rfl, rfl⟩) ?_ ?_
          rotate_left
          · simp only [Act.put, zA, zZ, zS, i64_w, i32_w]
            rfl
          refine pure_ (i := 12) (N := some 338) (v := undef) (a' := ?_) (zF 42 8191) rfl rfl (any_of HT_.out (by kernel_rfl)) (fun _ _ _ h => h) (Or.inr ⟨by rfl, rfl⟩) ?_ ?_
          rotate_left
          · simp only [Act.put, zA, zZ, zS, i64_w, i32_w]
            rfl
          refine pure_ (i := 13) (N := some 339) (v := undef) (a' := ?_) (zF 42 16383) rfl rfl (any_of HT_.out (by kernel_rfl)) (fun _ _ _ h => h) (Or.inr ⟨by rfl, rfl⟩) ?_ ?_
          rotate_left
          · simp only [Act.put, zA, zZ, zS, i64_w, i32_w]
            rfl
          refine pure_ (i := 14) (N := some 340) (v := undef) (a' := ?_) (zF 42 32767) rfl rfl (any_of HT_.out (by kernel_rfl)) (fun _ _ _ h => h) (Or.inr ⟨by rfl, rfl⟩) ?_ ?_
          rotate_left
          · simp only [Act.put, zA, zZ, zS, i64_w, i32_w]
            rfl
          refine pure_ (i := 15) (N := some 341) (v := undef) (a' := ?_) (zF 42 65535) rfl rfl (any_of HT_.out (by kernel_rfl)) (fun _ _ _ h => h) (Or.inr ⟨by rfl, rfl⟩) ?_ ?_
          rotate_left
          · simp only [Act.put, zA, zZ, zS, i64_w, i32_w]
            rfl
          refine pure_ (i := 16) (N := some 342) (v := undef) (a' := ?_) (zF 42 131071) rfl rfl (any_of HT_.out (by kernel_rfl)) (fun _ _ _ h => h) (Or.inr ⟨by rfl, rfl⟩) ?_ ?_
          rotate_left
          · simp only [Act.put, zA, zZ, zS, i64_w, i32_w]
            rfl
          refine pure_ (i := 17) (N := some 343) (v := ?_) (a' := ?_) (zF 42 262143) rfl rfl (any_of HT_.out (by kernel_rfl)) (fun _ _ _ h => h) (Or.inl ⟨by rfl, ?_⟩) ?_ ?_
          rotate_left; (intro w'; go_simp; with_reducible rfl); rotate_left; (simp only [Act.put, zA, zZ, zS, i64_w, i32_w]; rfl)
          refine pure_ (i := 18) (N := some 344) (v := ?_) (a' := ?_) (zF 42 524287) rfl rfl (any_of HT_.out (by kernel_rfl)) (fun _ _ _ h => h) (Or.inl ⟨by rfl, ?_⟩) ?_ ?_
          rotate_left; (intro w'; go_simp; with_reducible rfl); rotate_left; (simp only [Act.put, zA, zZ, zS, i64_w, i32_w]; rfl)
          refine pure_ (i := 19) (N := some 345) (v := ?_) (a' := ?_) (zF 42 1048575) rfl rfl (any_of HT_.out (by kernel_rfl)) (fun _ _ _ h => h) (Or.inl ⟨by rfl, ?_⟩) ?_ ?_
          rotate_left; (intro w'; go_simp; with_reducible rfl); rotate_left; (simp only [Act.put, zA, zZ, zS, i64_w, i32_w]; rfl)
          refine pure_ (i := 20) (N := some 346) (v := ?_) (a' := ?_) (zF 42 2097151) rfl rfl (any_of HT_.out (by kernel_rfl)) (fun _ _ _ h => h) (Or.inl ⟨by rfl, ?_⟩) ?_ ?_
          rotate_left; (intro w'; go_simp; with_reducible rfl); rotate_left; (simp only [Act.put, zA, zZ, zS, i64_w, i32_w]; rfl)
          refine pure_ (i := 21) (N := some 347) (v := ?_) (a' := ?_) (zF 42 4194303) rfl rfl (any_of HT_.out (by kernel_rfl)) (fun _ _ _ h => h) (Or.inl ⟨by rfl, ?_⟩) ?_ ?_
          rotate_left; (intro w'; go_simp; with_reducible rfl); rotate_left; (simp only [Act.put, zA, zZ, zS, i64_w, i32_w]; rfl)
          refine take_ (i := 22) (N := some 348) (v := ?_) (a' := ?_) (zF 42 8388607) rfl rfl (take_ofW HT_.out HW_.out (by kernel_rfl)) (fun _ _ _ h => h) (Or.inl ⟨by rfl, ?_⟩) hHeld ?_ ?_
          rotate_left; (rintro w' ⟨s0, s1, s2⟩; go_simp; with_reducible rfl); rotate_left; (simp only [Act.put, zA, zZ, zS, i64_w, i32_w]; rfl)
          refine pure_ (i := 23) (N := some 349) (v := ?_) (a' := ?_) (zF 42 16777215) rfl rfl (any_of HT_.out (by kernel_rfl)) (fun _ _ _ h => h) (Or.inl ⟨by rfl, ?_⟩) ?_ ?_
          rotate_left; (intro w'; go_simp; with_reducible rfl); rotate_left; (simp only [Act.put, zA, zZ, zS, i64_w, i32_w]; rfl)
          refine pure_ (i := 24) (N := some 350) (v := ?_) (a' := ?_) (zF 42 33554431) rfl rfl (any_of HT_.out (by kernel_rfl)) (fun _ _ _ h => h) (Or.inl ⟨by rfl, ?_⟩) ?_ ?_
          rotate_left; (intro w'; go_simp; with_reducible rfl); rotate_left; (simp only [Act.put, zA, zZ, zS, i64_w, i32_w]; rfl)
          refine pure_ (i := 25) (N := some 351) (v := ?_) (a' := ?_) (zF 42 67108863) rfl rfl (any_of HT_.out (by kernel_rfl)) (fun _ _ _ h => h) (Or.inl ⟨by rfl, ?_⟩) ?_ ?_
          rotate_left; (intro w'; go_simp; with_reducible rfl); rotate_left; (simp only [Act.put, zA, zZ, zS, i64_w, i32_w]; rfl)
          refine pure_ (i := 26) (N := some 352) (v := ?_) (a' := ?_) (zF 42 134217727) rfl rfl (any_of HT_.out (by kernel_rfl)) (fun _ _ _ h => h) (Or.inl ⟨by rfl, ?_⟩) ?_ ?_
          rotate_left; (intro w'; go_simp; with_reducible rfl); rotate_left; (simp only [Act.put, zA, zZ, zS, i64_w, i32_w]; rfl)
          refine pure_ (i := 27) (N := some 353) (v := ?_) (a' := ?_) (zF 42 268435455) rfl rfl (any_of HT_.out (by kernel_rfl)) (fun _ _ _ h => h) (Or.inl ⟨by rfl, ?_⟩) ?_ ?_
          rotate_left; (intro w'; go_simp; with_reducible rfl); rotate_left; (simp only [Act.put, zA, zZ, zS, i64_w, i32_w]; rfl)
          refine take_ (i := 28) (N := some 354) (v := ?_) (a' := ?_) (zF 42 536870911) rfl rfl (take_ofW HT_.out HW_.out (by kernel_rfl)) (fun _ _ _ h => h) (Or.inl ⟨by rfl, ?_⟩) hHeld ?_ ?_
          rotate_left; (rintro w' ⟨s0, s1, s2⟩; go_simp; with_reducible rfl); rotate_left; (simp only [Act.put, zA, zZ, zS, i64_w, i32_w]; rfl)
          refine pure_ (i := 29) (N := some 355) (v := ?_) (a' := ?_) (zF 42 1073741823) rfl rfl (any_of HT_.out (by kernel_rfl)) (fun _ _ _ h => h) (Or.inl ⟨by rfl, ?_⟩) ?_ ?_
          rotate_left; (intro w'; go_simp; with_reducible rfl); rotate_left; (simp only [Act.put, zA, zZ, zS, i64_w, i32_w]; rfl)
          refine pure_ (i := 30) (N := some 356) (v := ?_) (a' := ?_) (zF 42 2147483647) rfl rfl (any_of HT_.out (by kernel_rfl)) (fun _ _ _ h => h) (Or.inl ⟨by rfl, ?_⟩) ?_ ?_
          rotate_left; (intro w'; go_simp; with_reducible rfl); rotate_left; (simp only [Act.put, zA, zZ, zS, i64_w, i32_w]; rfl)
          refine pure_ (i := 31) (N := some 357) (v := ?_) (a' := ?_) (zF 42 4294967295) rfl rfl (any_of HT_.out (by kernel_rfl)) (fun _ _ _ h => h) (Or.inl ⟨by rfl, ?_⟩) ?_ ?_
          rotate_left; (intro w'; go_simp; with_reducible rfl); rotate_left; (simp only [Act.put, zA, zZ, zS, i64_w, i32_w]; rfl)
          refine pure_ (i := 32) (N := some 358) (v := ?_) (a' := ?_) (zF 42 8589934591) rfl rfl (any_of HT_.out (by kernel_rfl)) (fun _ _ _ h => h) (Or.inl ⟨by rfl, ?_⟩) ?_ ?_
          rotate_left; (intro w'; go_simp; with_reducible rfl); rotate_left; (simp only [Act.put, zA, zZ, zS, i64_w, i32_w]; rfl)
          refine pure_ (i := 33) (N := some 359) (v := ?_) (a' := ?_) (zF 42 17179869183) rfl rfl (any_of HT_.out (by kernel_rfl)) (fun _ _ _ h => h) (Or.inl ⟨by rfl, ?_⟩) ?_ ?_
          rotate_left; (intro w'; go_simp; with_reducible rfl); rotate_left; (simp only [Act.put, zA, zZ, zS, i64_w, i32_w]; rfl)
          refine pure_ (i := 34) (N := some 360) (v := ?_) (a' := ?_) (zF 42 34359738367) rfl rfl (any_of HT_.out (by kernel_rfl)) (fun _ _ _ h => h) (Or.inl ⟨by rfl, ?_⟩) ?_ ?_
          rotate_left; (intro w'; go_simp; with_reducible rfl); rotate_left; (simp only [Act.put, zA, zZ, zS, i64_w, i32_w]; rfl)
          refine pure_ (i := 35) (N := some 361) (v := ?_) (a' := ?_) (zF 42 68719476735) rfl rfl (any_of HT_.out (by kernel_rfl)) (fun _ _ _ h => h) (Or.inl ⟨by rfl, ?_⟩) ?_ ?_
          rotate_left; (intro w'; go_simp; with_reducible rfl); rotate_left; (simp only [Act.put, zA, zZ, zS, i64_w, i32_w]; rfl)
          refine take_ (i := 36) (N := some 362) (v := ?_) (a' := ?_) (zF 42 137438953471) rfl rfl (take_ofW HT_.out HW_.out (by kernel_rfl)) (fun _ _ _ h => h) (Or.inl ⟨by rfl, ?_⟩) hHeld ?_ ?_
          rotate_left; (rintro w' ⟨s0, s1, s2⟩; go_simp; with_reducible rfl); rotate_left; (simp only [Act.put, zA, zZ, zS, i64_w, i32_w]; rfl)
          refine pure_ (i := 37) (N := some 363) (v := ?_) (a' := ?_) (zF 42 274877906943) rfl rfl (any_of HT_.out (by kernel_rfl)) (fun _ _ _ h => h) (Or.inl ⟨by rfl, ?_⟩) ?_ ?_
          rotate_left; (intro w'; go_simp; with_reducible rfl); rotate_left; (simp only [Act.put, zA, zZ, zS, i64_w, i32_w]; rfl)
          refine take_ (i := 38) (N := some 364) (v := ?_) (a' := ?_) (zF 42 549755813887) rfl rfl (take_ofW HT_.out HW_.out (by kernel_rfl)) (fun _ _ _ h => h) (Or.inl ⟨by rfl, ?_⟩) hHeld ?_ ?_
          rotate_left; (rintro w' ⟨s0, s1, s2⟩; go_simp; with_reducible rfl); rotate_left; (simp only [Act.put, zA, zZ, zS, i64_w, i32_w]; rfl)
          refine pure_ (i := 39) (N := some 365) (v := ?_) (a' := ?_) (zF 42 1099511627775) rfl rfl (any_of HT_.out (by kernel_rfl)) (fun _ _ _ h => h) (Or.inl ⟨by rfl, ?_⟩) ?_ ?_
          rotate_left; (intro w'; go_simp; with_reducible rfl); rotate_left; (simp only [Act.put, zA, zZ, zS, i64_w, i32_w]; rfl)
          refine pure_ (i := 40) (N := some 366) (v := ?_) (a' := ?_) (zF 42 2199023255551) rfl rfl (any_of HT_.out (by kernel_rfl)) (fun _ _ _ h => h) (Or.inl ⟨by rfl, ?_⟩) ?_ ?_
          rotate_left; (intro w'; go_simp; with_reducible rfl); rotate_left; (simp only [Act.put, zA, zZ, zS, i64_w, i32_w]; rfl)
          refine pure_ (i := 41) (N := some 367) (v := ?_) (a' := ?_) (zF 42 4398046511103) rfl rfl (any_of HT_.out (by kernel_rfl)) (fun _ _ _ h => h) (Or.inl ⟨by rfl, ?_⟩) ?_ ?_
          rotate_left; (intro w'; go_simp; with_reducible rfl); rotate_left; (simp only [Act.put, zA, zZ, zS, i64_w, i32_w]; rfl)
          refine done_ (done_of HT_.out (by kernel_rfl)) ?_
          clear hHeld
          go_wp2
          go_meet
          case rel => exact ⟨by rw [HT2.out], ⟨H2d.out⟩⟩
      · have tn0 : decide ((0 : Int) < (n : Int)) = false := decide_eq_false (by omega)
        have htq : tq = false := by rw [HTQ.out]; unfold pdq; exact decide_eq_false (by show ¬ ((0 < 0 ∧ 0 + 1 < n) ∨ (0 = 0 ∧ 0 < n ∧ ps.getD 0 0 ≠ 2147483647)); omega)
        have HT2 := Aside0.mk htq
        clear htq
        refine start_ (n := 42) (S := (fun w' => w'.cell? ⟨g, 9, none⟩ = some (.slice (some ⟨gp, 0, none⟩) n n) ∧ w'.cell? ⟨g, 12, none⟩ = some (.int .i64 0))) (ds := []) #[false, false, false, false, false, false, false, false, false, false, false, false, false, false, false, false, false, false, false, false, false, false, false, false, false, false, false, false, false, false, false, false, false, false, false, false, false, false, false, false, false, false] (by kernel_rfl) rfl rfl ⟨H1.out.c9, H1.out.c12⟩ (fun hHeld => ?_)
        refine with_tabW d52_tab d52_bits (fun HT_ HW_ => ?_)
        have H2d := Aside0.mk (show PV hs B w0 w1.drew g gp gd n m ⟨ps, da, dl, 0, cmd, st⟩ from H1.out.drew)
        clear H1
        generalize w1.drew = w2d at H2d hHeld ⊢
        refine pure_ (i := 0) (N := some 326) (v := ?_) (a' := ?_) (zF 42 1) rfl rfl (any_of HT_.out (by kernel_rfl)) (fun _ _ _ h => h) (Or.inl ⟨by rfl, ?_⟩) ?_ ?_
        rotate_left; (intro w'; go_simp; with_reducible rfl); rotate_left; (simp only [Act.put, zA, zZ, zS, i64_w, i32_w]; rfl)
        refine pure_ (i := 1) (N := some 327) (v := ?_) (a' := ?_) (zF 42 3) rfl rfl (any_of HT_.out (by kernel_rfl)) (fun _ _ _ h => h) (Or.inl ⟨by rfl, ?_⟩) ?_ ?_
        rotate_left; (intro w'; go_simp; with_reducible rfl); rotate_left; (simp only [Act.put, zA, zZ, zS, i64_w, i32_w]; rfl)
        refine pure_ (i := 2) (N := some 328) (v := ?_) (a' := ?_) (zF 42 7) rfl rfl (any_of HT_.out (by kernel_rfl)) (fun _ _ _ h => h) (Or.inl ⟨by rfl, ?_⟩) ?_ ?_
        rotate_left; (intro w'; go_simp; with_reducible rfl); rotate_left; (simp only [Act.put, zA, zZ, zS, i64_w, i32_w]; rfl)
        refine take_ (i := 3) (N := some 329) (v := ?_) (a' := ?_) (zF 42 15) rfl rfl (take_ofW HT_.out HW_.out (by kernel_rfl)) (fun _ _ _ h => h) (Or.inl ⟨by rfl, ?_⟩) hHeld ?_ ?_
        rotate_left; (rintro w' ⟨s0, s1⟩; go_simp; with_reducible rfl); rotate_left; (simp only [Act.put, zA, zZ, zS, i64_w, i32_w]; rfl)
        refine pure_ (i := 4) (N := some 330) (v := ?_) (a' := ?_) (zF 42 31) rfl rfl (any_of HT_.out (by kernel_rfl)) (fun _ _ _ h => h) (Or.inl ⟨by rfl, ?_⟩) ?_ ?_
        rotate_left; (intro w'; go_simp; with_reducible rfl); rotate_left; (simp only [Act.put, zA, zZ, zS, i64_w, i32_w]; rfl)
        refine pure_ (i := 5) (N := some 331) (v := ?_) (a' := ?_) (zF 42 63) rfl rfl (any_of HT_.out (by kernel_rfl)) (fun _ _ _ h => h) (Or.inl ⟨by rfl, ?_⟩) ?_ ?_
        rotate_left; (intro w'; go_simp; with_reducible rfl); rotate_left; (simp only [Act.put, zA, zZ, zS, i64_w, i32_w]; rfl)
        refine pure_ (i := 6) (N := some 332) (v := undef) (a' := ?_) (zF 42 127) rfl rfl (any_of HT_.out (by kernel_rfl)) (fun _ _ _ h => h) (Or.inr ⟨by rfl, rfl⟩) ?_ ?_
        rotate_left
        · simp only [Act.put, zA, zZ, zS, i64_w, i32_w]
          rfl
        refine pure_ (i := 7) (N := some 333) (v := undef) (a' := ?_) (zF 42 255) rfl rfl (any_of HT_.out (by kernel_rfl)) (fun _ _ _ h => h) (Or.inr ⟨by rfl, rfl⟩) ?_ ?_
        rotate_left
        · simp only [Act.put, zA, zZ, zS, i64_w, i32_w]
          rfl
        refine pure_ (i := 8) (N := some 334) (v := undef) (a' := ?_) (zF 42 511) rfl rfl (any_of HT_.out (by kernel_rfl)) (fun _ _ _ h => h) (Or.inr ⟨by rfl, rfl⟩) ?_ ?_
        rotate_left
        · simp only [Act.put, zA, zZ, zS, i64_w, i32_w]
          rfl
        refine pure_ (i := 9) (N := some 335) (v := undef) (a' := ?_) (zF 42 1023) rfl rfl (any_of HT_.out (by kernel_rfl)) (fun _ _ _ h => h) (Or.inr ⟨by rfl, rfl⟩) ?_ ?_
        rotate_left
        · simp only [Act.put, zA, zZ, zS, i64_w, i32_w]
          rfl
        refine pure_ (i := 10) (N := some 336) (v := undef) (a' := ?_) (zF 42 2047) rfl rfl (any_of HT_.out (by kernel_rfl)) (fun _ _ _ h => h) (Or.inr ⟨by rfl, rfl⟩) ?_ ?_
        rotate_left
        · simp only [Act.put, zA, zZ, zS, i64_w, i32_w]
          rfl
        refine pure_ (i := 11) (N := some 337) (v := undef) (a' := ?_) (zF 42 4095) rfl rfl (any_of HT_.out (by kernel_rfl)) (fun _ _ _ h => h) (Or.inr ⟨by rfl, rfl⟩) ?_ ?_
        rotate_left
        · simp only [Act.put, zA, zZ, zS, i64_w, i32_w]
          rfl
        refine pure_ (i := 12) (N := some 338) (v := undef) (a' := ?_) (zF 42 8191) rfl rfl (any_of HT_.out (by kernel_rfl)) (fun _ _ _ h => h) (Or.inr ⟨by rfl, rfl⟩) ?_ ?_
        rotate_left
        · simp only [Act.put, zA, zZ, zS, i64_w, i32_w]
          rfl
        refine pure_ (i := 13) (N := some 339) (v := undef) (a' := ?_) (zF 42 16383) rfl rfl (any_of HT_.out (by kernel_rfl)) (fun _ _ _ h => h) (Or.inr ⟨by rfl, rfl⟩) ?_ ?_
        rotate_left
        · simp only [Act.put, zA, zZ, zS, i64_w, i32_w]
          rfl
        refine pure_ (i := 14) (N := some 340) (v := undef) (a' := ?_) (zF 42 32767) rfl rfl (any_of HT_.out (by kernel_rfl)) (fun _ _ _ h => h) (Or.inr ⟨by rfl, rfl⟩) ?_ ?_
        rotate_left
        · simp only [Act.put, zA, zZ, zS, i64_w, i32_w]
          rfl
        refine pure_ (i := 15) (N := some 341) (v := undef) (a' := ?_) (zF 42 65535) rfl rfl (any_of HT_.out (by kernel_rfl)) (fun _ _ _ h => h) (Or.inr ⟨by rfl, rfl⟩) ?_ ?_
        rotate_left
        · simp only [Act.put, zA, zZ, zS, i64_w, i32_w]
          rfl
        refine pure_ (i := 16) (N := some 342) (v := undef) (a' := ?_) (zF 42 131071) rfl rfl (any_of HT_.out (by kernel_rfl)) (fun _ _ _ h => h) (Or.inr ⟨by rfl, rfl⟩) ?_ ?_
        rotate_left
        · simp only [Act.put, zA, zZ, zS, i64_w, i32_w]
          rfl
        refine pure_ (i := 17) (N := some 343) (v := ?_) (a' := ?_) (zF 42 262143) rfl rfl (any_of HT_.out (by kernel_rfl)) (fun _ _ _ h => h) (Or.inl ⟨by rfl, ?_⟩) ?_ ?_
        rotate_left; (intro w'; go_simp; with_reducible rfl); rotate_left; (simp only [Act.put, zA, zZ, zS, i64_w, i32_w]; rfl)
        refine pure_ (i := 18) (N := some 344) (v := ?_) (a' := ?_) (zF 42 524287) rfl rfl (any_of HT_.out (by kernel_rfl)) (fun _ _ _ h => h) (Or.inl ⟨by rfl, ?_⟩) ?_ ?_
        rotate_left; (intro w'; go_simp; with_reducible rfl); rotate_left; (simp only [Act.put, zA, zZ, zS, i64_w, i32_w]; rfl)
        refine pure_ (i := 19) (N := some 345) (v := ?_) (a' := ?_) (zF 42 1048575) rfl rfl (any_of HT_.out (by kernel_rfl)) (fun _ _ _ h => h) (Or.inl ⟨by rfl, ?_⟩) ?_ ?_
        rotate_left; (intro w'; go_simp; with_reducible rfl); rotate_left; (simp only [Act.put, zA, zZ, zS, i64_w, i32_w]; rfl)
        refine pure_ (i := 20) (N := some 346) (v := ?_) (a' := ?_) (zF 42 2097151) rfl rfl (any_of HT_.out (by kernel_rfl)) (fun _ _ _ h => h) (Or.inl ⟨by rfl, ?_⟩) ?_ ?_
        rotate_left; (intro w'; go_simp; with_reducible rfl); rotate_left; (simp only [Act.put, zA, zZ, zS, i64_w, i32_w]; rfl)
        refine pure_ (i := 21) (N := some 347) (v := ?_) (a' := ?_) (zF 42 4194303) rfl rfl (any_of HT_.out (by kernel_rfl)) (fun _ _ _ h => h) (Or.inl ⟨by rfl, ?_⟩) ?_ ?_
        rotate_left; (intro w'; go_simp; with_reducible rfl); rotate_left; (simp only [Act.put, zA, zZ, zS, i64_w, i32_w]; rfl)
        refine take_ (i := 22) (N := some 348) (v := ?_) (a' := ?_) (zF 42 8388607) rfl rfl (take_ofW HT_.out HW_.out (by kernel_rfl)) (fun _ _ _ h => h) (Or.inl ⟨by rfl, ?_⟩) hHeld ?_ ?_
        rotate_left; (rintro w' ⟨s0, s1⟩; go_simp; with_reducible rfl); rotate_left; (simp only [Act.put, zA, zZ, zS, i64_w, i32_w]; rfl)
        refine pure_ (i := 23) (N := some 349) (v := ?_) (a' := ?_) (zF 42 16777215) rfl rfl (any_of HT_.out (by kernel_rfl)) (fun _ _ _ h => h) (Or.inl ⟨by rfl, ?_⟩) ?_ ?_
        rotate_left; (intro w'; go_simp; with_reducible rfl); rotate_left; (simp only [Act.put, zA, zZ, zS, i64_w, i32_w]; rfl)
        refine pure_ (i := 24) (N := some 350) (v := ?_) (a' := ?_) (zF 42 33554431) rfl rfl (any_of HT_.out (by kernel_rfl)) (fun _ _ _ h => h) (Or.inl ⟨by rfl, ?_⟩) ?_ ?_
        rotate_left; (intro w'; go_simp; with_reducible rfl); rotate_left; (simp only [Act.put, zA, zZ, zS, i64_w, i32_w]; rfl)
        refine pure_ (i := 25) (N := some 351) (v := ?_) (a' := ?_) (zF 42 67108863) rfl rfl (any_of HT_.out (by kernel_rfl)) (fun _ _ _ h => h) (Or.inl ⟨by rfl, ?_⟩) ?_ ?_
        rotate_left; (intro w'; go_simp; with_reducible rfl); rotate_left; (simp only [Act.put, zA, zZ, zS, i64_w, i32_w]; rfl)
        refine pure_ (i := 26) (N := some 352) (v := ?_) (a' := ?_) (zF 42 134217727) rfl rfl (any_of HT_.out (by kernel_rfl)) (fun _ _ _ h => h) (Or.inl ⟨by rfl, ?_⟩) ?_ ?_
        rotate_left; (intro w'; go_simp; with_reducible rfl); rotate_left; (simp only [Act.put, zA, zZ, zS, i64_w, i32_w]; rfl)
        refine pure_ (i := 27) (N := some 353) (v := ?_) (a' := ?_) (zF 42 268435455) rfl rfl (any_of HT_.out (by kernel_rfl)) (fun _ _ _ h => h) (Or.inl ⟨by rfl, ?_⟩) ?_ ?_
        rotate_left; (intro w'; go_simp; with_reducible rfl); rotate_left; (simp only [Act.put, zA, zZ, zS, i64_w, i32_w]; rfl)
        refine take_ (i := 28) (N := some 354) (v := ?_) (a' := ?_) (zF 42 536870911) rfl rfl (take_ofW HT_.out HW_.out (by kernel_rfl)) (fun _ _ _ h => h) (Or.inl ⟨by rfl, ?_⟩) hHeld ?_ ?_
        rotate_left; (rintro w' ⟨s0, s1⟩; go_simp; with_reducible rfl); rotate_left; (simp only [Act.put, zA, zZ, zS, i64_w, i32_w]; rfl)
        refine pure_ (i := 29) (N := some 355) (v := ?_) (a' := ?_) (zF 42 1073741823) rfl rfl (any_of HT_.out (by kernel_rfl)) (fun _ _ _ h => h) (Or.inl ⟨by rfl, ?_⟩) ?_ ?_
        rotate_left; (intro w'; go_simp; with_reducible rfl); rotate_left; (simp only [Act.put, zA, zZ, zS, i64_w, i32_w]; rfl)
        refine pure_ (i := 30) (N := some 356) (v := ?_) (a' := ?_) (zF 42 2147483647) rfl rfl (any_of HT_.out (by kernel_rfl)) (fun _ _ _ h => h) (Or.inl ⟨by rfl, ?_⟩) ?_ ?_
        rotate_left; (intro w'; go_simp; with_reducible rfl); rotate_left; (simp only [Act.put, zA, zZ, zS, i64_w, i32_w]; rfl)
        refine pure_ (i := 31) (N := some 357) (v := ?_) (a' := ?_) (zF 42 4294967295) rfl rfl (any_of HT_.out (by kernel_rfl)) (fun _ _ _ h => h) (Or.inl ⟨by rfl, ?_⟩) ?_ ?_
        rotate_left; (intro w'; go_simp; with_reducible rfl); rotate_left; (simp only [Act.put, zA, zZ, zS, i64_w, i32_w]; rfl)
        refine pure_ (i := 32) (N := some 358) (v := ?_) (a' := ?_) (zF 42 8589934591) rfl rfl (any_of HT_.out (by kernel_rfl)) (fun _ _ _ h => h) (Or.inl ⟨by rfl, ?_⟩) ?_ ?_
        rotate_left; (intro w'; go_simp; with_reducible rfl); rotate_left; (simp only [Act.put, zA, zZ, zS, i64_w, i32_w]; rfl)
        refine pure_ (i := 33) (N := some 359) (v := undef) (a' := ?_) (zF 42 17179869183) rfl rfl (any_of HT_.out (by kernel_rfl)) (fun _ _ _ h => h) (Or.inr ⟨by rfl, rfl⟩) ?_ ?_
        rotate_left
        · simp only [Act.put, zA, zZ, zS, i64_w, i32_w]
          rfl
        refine pure_ (i := 34) (N := some 360) (v := undef) (a' := ?_) (zF 42 34359738367) rfl rfl (any_of HT_.out (by kernel_rfl)) (fun _ _ _ h => h) (Or.inr ⟨by rfl, rfl⟩) ?_ ?_
        rotate_left
        · simp only [Act.put, zA, zZ, zS, i64_w, i32_w]
          rfl
        refine pure_ (i := 35) (N := some 361) (v := undef) (a' := ?_) (zF 42 68719476735) rfl rfl (any_of HT_.out (by kernel_rfl)) (fun _ _ _ h => h) (Or.inr ⟨by rfl, rfl⟩) ?_ ?_
        rotate_left
        · simp only [Act.put, zA, zZ, zS, i64_w, i32_w]
          rfl
        refine pure_ (i := 36) (N := some 362) (v := undef) (a' := ?_) (zF 42 137438953471) rfl rfl (any_of HT_.out (by kernel_rfl)) (fun _ _ _ h => h) (Or.inr ⟨by rfl, rfl⟩) ?_ ?_
        rotate_left
        · simp only [Act.put, zA, zZ, zS, i64_w, i32_w]
          rfl
        refine pure_ (i := 37) (N := some 363) (v := undef) (a' := ?_) (zF 42 274877906943) rfl rfl (any_of HT_.out (by kernel_rfl)) (fun _ _ _ h => h) (Or.inr ⟨by rfl, rfl⟩) ?_ ?_
        rotate_left
        · simp only [Act.put, zA, zZ, zS, i64_w, i32_w]
          rfl
        refine pure_ (i := 38) (N := some 364) (v := undef) (a' := ?_) (zF 42 549755813887) rfl rfl (any_of HT_.out (by kernel_rfl)) (fun _ _ _ h => h) (Or.inr ⟨by rfl, rfl⟩) ?_ ?_
        rotate_left
        · simp only [Act.put, zA, zZ, zS, i64_w, i32_w]
          rfl
        refine pure_ (i := 39) (N := some 365) (v := undef) (a' := ?_) (zF 42 1099511627775) rfl rfl (any_of HT_.out (by kernel_rfl)) (fun _ _ _ h => h) (Or.inr ⟨by rfl, rfl⟩) ?_ ?_
        rotate_left
        · simp only [Act.put, zA, zZ, zS, i64_w, i32_w]
          rfl
        refine pure_ (i := 40) (N := some 366) (v := ?_) (a' := ?_) (zF 42 2199023255551) rfl rfl (any_of HT_.out (by kernel_rfl)) (fun _ _ _ h => h) (Or.inl ⟨by rfl, ?_⟩) ?_ ?_
        rotate_left; (intro w'; go_simp; with_reducible rfl); rotate_left; (simp only [Act.put, zA, zZ, zS, i64_w, i32_w]; rfl)
        refine pure_ (i := 41) (N := some 367) (v := ?_) (a' := ?_) (zF 42 4398046511103) rfl rfl (any_of HT_.out (by kernel_rfl)) (fun _ _ _ h => h) (Or.inl ⟨by rfl, ?_⟩) ?_ ?_
        rotate_left; (intro w'; go_simp; with_reducible rfl); rotate_left; (simp only [Act.put, zA, zZ, zS, i64_w, i32_w]; rfl)
        refine done_ (done_of HT_.out (by kernel_rfl)) ?_
        clear hHeld
        go_wp2
        go_meet
        case rel => exact ⟨by rw [HT2.out], ⟨H2d.out⟩⟩
  case rest =>
    obtain ⟨rfl, hcut⟩ := hcut
    clear H1
    have H2 := Aside0.mk hcut.out
    clear hcut
    obtain ⟨w2, hw2⟩ : ∃ w_, w_ = wc := ⟨_, rfl⟩
    rw [← hw2] at H2 ⊢
    clear hw2
    go_upto_if 367 with (fail)
    go_cut [] from 367 to 374 (fun wc => Aside0 (PV hs B w0 wc g gp gd n m ⟨ps, da, dl, k2, cmd, st⟩))
    case first =>
      cases htq : tq with
      | true =>
        have hk : k2 = pl + 1 := by rw [HK2.out, htq]; rfl
        have hwr : wrap64 ((pl : Int) + 1) = (k2 : Int) := by have := HPB.out; unfold wrap64; omega
        have c12 := H2.out.c12
        have f12 := H2.out.free 12
        have H3 := Aside0.mk (H2.out.set_pl k2 (k2 : Int) rfl)
        clear hk htq
        go_wp2
        go_meet
        case rel => exact ⟨H3.out⟩
      | false =>
        have hk : k2 = pl := by rw [HK2.out, htq]; rfl
        have HK := Aside0.mk hk
        clear hk htq
        go_wp2
        go_meet
        case rel => exact ⟨by rw [HK.out]; exact H2.out⟩
    case rest =>
      clear H2
      have H4 := Aside0.mk hcut.out
      clear hcut
      obtain ⟨w4, hw4⟩ : ∃ w_, w_ = wc := ⟨_, rfl⟩
      rw [← hw4] at H4 ⊢
      clear hw4
      go_upto_region 54 with (fail)
      go_cut [386] from 375 to 386 (fun v wc => v = .bool tp ∧ Aside0 (PV hs B w0 wc g gp gd n m ⟨ps, da, dl, k2, cmd, st⟩))
      case first =>
        have c14 := H4.out.c14
        have c13 := H4.out.c13
        by_cases hs : st = 10
        · have ts : (st == 10) = true := by simpa using hs
          by_cases hc : cmd = 2147483647
          · have tc : (cmd == 2147483647) = true := by simpa using hc
            have ht : tp = true := by rw [HTP.out]; exact decide_eq_true ⟨hs, hc⟩
            have HT := Aside0.mk ht
            clear ht hs hc
            go_wp2
            go_meet
            case rel => exact ⟨by rw [HT.out], ⟨H4.out⟩⟩
          · have tc : (cmd == 2147483647) = false := by simpa using hc
            have ht : tp = false := by rw [HTP.out]; exact decide_eq_false (fun h => hc h.2)
            have HT := Aside0.mk ht
            clear ht hs hc
            go_wp2
            go_meet
            case rel => exact ⟨by rw [HT.out], ⟨H4.out⟩⟩
        · have ts : (st == 10) = false := by simpa using hs
          have ht : tp = false := by rw [HTP.out]; exact decide_eq_false (fun h => hs h.1)
          have HT := Aside0.mk ht
          clear ht hs
          go_wp2
          go_meet
          case rel => exact ⟨by rw [HT.out], ⟨H4.out⟩⟩
      case rest =>
        obtain ⟨rfl, hcut⟩ := hcut
        clear H4
        have H6 := Aside0.mk hcut.out
        clear hcut
        obtain ⟨w6, hw6⟩ : ∃ w_, w_ = wc := ⟨_, rfl⟩
        rw [← hw6] at H6 ⊢
        clear hw6
        go_upto_if 386 with (fail)
        go_cut [] from 386 to 388 (fun wc => Aside0 (PV hs B w0 wc g gp gd n m ⟨ps, da, dl, k2, c2, st⟩))
        case first =>
          cases htp : tp with
          | true =>
            have hk : st = 10 ∧ cmd = 2147483647 := of_decide_eq_true (HTP.out.symm.trans htp)
            have hc2 : c2 = pnum (da.take dl) cmd := by rw [HC2.out]; unfold pdc; rw [if_pos hk]
            have HCC := Aside0.mk hc2
            clear hk htp hc2
            go_wp2_with fail
            refine (parse_ hs B w0 w6 g gp gd n m ⟨ps, da, dl, k2, cmd, st⟩ H6.out HDL.out HBG.out).mono ?_
            rintro e w7 ⟨rfl, h7⟩
            have H7 := Aside0.mk h7
            clear h7
            go_wp2
            go_meet
            case rel => exact ⟨by rw [HCC.out]; exact H7.out⟩
          | false =>
            have hk : ¬ (st = 10 ∧ cmd = 2147483647) := of_decide_eq_false (HTP.out.symm.trans htp)
            have hc2 : c2 = cmd := by rw [HC2.out]; unfold pdc; rw [if_neg hk]
            have HCC := Aside0.mk hc2
            clear hk htp hc2
            go_wp2
            go_meet
            case rel => exact ⟨by rw [HCC.out]; exact H6.out⟩
        case rest =>
          clear H6
          have H8 := Aside0.mk hcut.out
          clear hcut
          obtain ⟨w8, hw8⟩ : ∃ w_, w_ = wc := ⟨_, rfl⟩
          rw [← hw8] at H8 ⊢
          clear hw8
          have c10 := H8.out.c10
          have c11 := H8.out.c11
          have tdl : decide (0 ≤ (dl : Int)) = true := decide_eq_true (by omega)
          have d0 : (0 : Int) ≤ (dl : Int) := by omega
          have d1 : (dl : Int) ≤ (m : Int) := by have := HDL.out; omega
          have c14 := H8.out.c14
          obtain ⟨hl, hh⟩ := HST.out
          rcases (show st = 1 ∨ st = 2 ∨ st = 3 ∨ st = 4 ∨ st = 5 ∨ st = 6 ∨ st = 7 ∨ st = 8 ∨ st = 9 ∨ st = 10 ∨ st = 11 ∨ st = 12 ∨ st = 13 by omega) with rfl | rfl | rfl | rfl | rfl | rfl | rfl | rfl | rfl | rfl | rfl | rfl | rfl
          · clear hl hh
            have hq : ∀ w_ : World, (binOp .neq 85 .nilFunc .nilFunc).run Tryd.prog w_ = .ok (.bool false) w_ := fun w_ => by kernel_rfl
            have c13 := H8.out.c13
            have f13 := H8.out.free 13
            have H9 := H8.out.set_cmd (Go.bits .or .i64 c2 b)
            have ch := (H9.ch 2 (by decide)).trans (congrArg some (HNL.out 2 (by decide)))
            have H9 := Aside0.mk H9
            go_wp2
            go_end0
            refine ⟨rfl, ?_⟩
            rw [pdisp_in n ⟨ps, da, dl, pl, cmd, 1⟩ b k2 c2 (by have h_ := HK2.out; rw [HTQ.out] at h_; exact h_) HC2.out (.inl rfl)]
            exact H9.out
          · clear hl hh
            have hq : ∀ w_ : World, (binOp .neq 85 .nilFunc .nilFunc).run Tryd.prog w_ = .ok (.bool false) w_ := fun w_ => by kernel_rfl
            have c13 := H8.out.c13
            have f13 := H8.out.free 13
            have H9 := H8.out.set_cmd (Go.bits .or .i64 c2 b)
            have ch := (H9.ch 2 (by decide)).trans (congrArg some (HNL.out 2 (by decide)))
            have H9 := Aside0.mk H9
            go_wp2
            go_end0
            refine ⟨rfl, ?_⟩
            rw [pdisp_in n ⟨ps, da, dl, pl, cmd, 2⟩ b k2 c2 (by have h_ := HK2.out; rw [HTQ.out] at h_; exact h_) HC2.out (.inr (.inl rfl))]
            exact H9.out
          · clear hl hh
            have hq : ∀ w_ : World, (binOp .neq 85 .nilFunc .nilFunc).run Tryd.prog w_ = .ok (.bool false) w_ := fun w_ => by kernel_rfl
            have c13 := H8.out.c13
            have f13 := H8.out.free 13
            have H9 := H8.out.set_cmd (Go.bits .or .i64 c2 b)
            have ch := (H9.ch 2 (by decide)).trans (congrArg some (HNL.out 2 (by decide)))
            have H9 := Aside0.mk H9
            go_wp2
            go_end0
            refine ⟨rfl, ?_⟩
            rw [pdisp_in n ⟨ps, da, dl, pl, cmd, 3⟩ b k2 c2 (by have h_ := HK2.out; rw [HTQ.out] at h_; exact h_) HC2.out (.inr (.inr (.inl rfl)))]
            exact H9.out
          · clear hl hh
            have hq : ∀ w_ : World, (binOp .neq 87 .nilFunc .nilFunc).run Tryd.prog w_ = .ok (.bool false) w_ := fun w_ => by kernel_rfl
            have ch := (H8.out.ch 4 (by decide)).trans (congrArg some (HNL.out 4 (by decide)))
            go_wp2
            go_end0
            refine ⟨rfl, ?_⟩
            rw [pdisp_out n ⟨ps, da, dl, pl, cmd, 4⟩ b k2 c2 (by have h_ := HK2.out; rw [HTQ.out] at h_; exact h_) HC2.out (by show ¬ ((4 : Int) = 1 ∨ (4 : Int) = 2 ∨ (4 : Int) = 3 ∨ (4 : Int) = 8 ∨ (4 : Int) = 9); decide)]
            exact H8.out
          · clear hl hh
            have hq : ∀ w_ : World, (binOp .neq 87 .nilFunc .nilFunc).run Tryd.prog w_ = .ok (.bool false) w_ := fun w_ => by kernel_rfl
            have ch := (H8.out.ch 4 (by decide)).trans (congrArg some (HNL.out 4 (by decide)))
            go_wp2
            go_end0
            refine ⟨rfl, ?_⟩
            rw [pdisp_out n ⟨ps, da, dl, pl, cmd, 5⟩ b k2 c2 (by have h_ := HK2.out; rw [HTQ.out] at h_; exact h_) HC2.out (by show ¬ ((5 : Int) = 1 ∨ (5 : Int) = 2 ∨ (5 : Int) = 3 ∨ (5 : Int) = 8 ∨ (5 : Int) = 9); decide)]
            exact H8.out
          · clear hl hh
            have hq : ∀ w_ : World, (binOp .neq 87 .nilFunc .nilFunc).run Tryd.prog w_ = .ok (.bool false) w_ := fun w_ => by kernel_rfl
            have ch := (H8.out.ch 4 (by decide)).trans (congrArg some (HNL.out 4 (by decide)))
            go_wp2
            go_end0
            refine ⟨rfl, ?_⟩
            rw [pdisp_out n ⟨ps, da, dl, pl, cmd, 6⟩ b k2 c2 (by have h_ := HK2.out; rw [HTQ.out] at h_; exact h_) HC2.out (by show ¬ ((6 : Int) = 1 ∨ (6 : Int) = 2 ∨ (6 : Int) = 3 ∨ (6 : Int) = 8 ∨ (6 : Int) = 9); decide)]
            exact H8.out
          · clear hl hh
            have hq : ∀ w_ : World, (binOp .neq 87 .nilFunc .nilFunc).run Tryd.prog w_ = .ok (.bool false) w_ := fun w_ => by kernel_rfl
            have ch := (H8.out.ch 4 (by decide)).trans (congrArg some (HNL.out 4 (by decide)))
            go_wp2
            go_end0
            refine ⟨rfl, ?_⟩
            rw [pdisp_out n ⟨ps, da, dl, pl, cmd, 7⟩ b k2 c2 (by have h_ := HK2.out; rw [HTQ.out] at h_; exact h_) HC2.out (by show ¬ ((7 : Int) = 1 ∨ (7 : Int) = 2 ∨ (7 : Int) = 3 ∨ (7 : Int) = 8 ∨ (7 : Int) = 9); decide)]
            exact H8.out
          · clear hl hh
            have hq : ∀ w_ : World, (binOp .neq 86 .nilFunc .nilFunc).run Tryd.prog w_ = .ok (.bool false) w_ := fun w_ => by kernel_rfl
            have c13 := H8.out.c13
            have f13 := H8.out.free 13
            have H9 := H8.out.set_cmd (Go.bits .or .i64 c2 b)
            have ch := (H9.ch 3 (by decide)).trans (congrArg some (HNL.out 3 (by decide)))
            have H9 := Aside0.mk H9
            go_wp2
            go_end0
            refine ⟨rfl, ?_⟩
            rw [pdisp_in n ⟨ps, da, dl, pl, cmd, 8⟩ b k2 c2 (by have h_ := HK2.out; rw [HTQ.out] at h_; exact h_) HC2.out (.inr (.inr (.inr (.inl rfl))))]
            exact H9.out
          · clear hl hh
            have hq : ∀ w_ : World, (binOp .neq 86 .nilFunc .nilFunc).run Tryd.prog w_ = .ok (.bool false) w_ := fun w_ => by kernel_rfl
            have c13 := H8.out.c13
            have f13 := H8.out.free 13
            have H9 := H8.out.set_cmd (Go.bits .or .i64 c2 b)
            have ch := (H9.ch 3 (by decide)).trans (congrArg some (HNL.out 3 (by decide)))
            have H9 := Aside0.mk H9
            go_wp2
            go_end0
            refine ⟨rfl, ?_⟩
            rw [pdisp_in n ⟨ps, da, dl, pl, cmd, 9⟩ b k2 c2 (by have h_ := HK2.out; rw [HTQ.out] at h_; exact h_) HC2.out (.inr (.inr (.inr (.inr rfl))))]
            exact H9.out
          · clear hl hh
            have hq : ∀ w_ : World, (binOp .neq 88 .nilFunc .nilFunc).run Tryd.prog w_ = .ok (.bool false) w_ := fun w_ => by kernel_rfl
            have ch := (H8.out.ch 5 (by decide)).trans (congrArg some (HNL.out 5 (by decide)))
            go_wp2
            go_end0
            refine ⟨rfl, ?_⟩
            rw [pdisp_out n ⟨ps, da, dl, pl, cmd, 10⟩ b k2 c2 (by have h_ := HK2.out; rw [HTQ.out] at h_; exact h_) HC2.out (by show ¬ ((10 : Int) = 1 ∨ (10 : Int) = 2 ∨ (10 : Int) = 3 ∨ (10 : Int) = 8 ∨ (10 : Int) = 9); decide)]
            exact H8.out
          · clear hl hh
            have hq : ∀ w_ : World, (binOp .neq 89 .nilFunc .nilFunc).run Tryd.prog w_ = .ok (.bool false) w_ := fun w_ => by kernel_rfl
            have ch := (H8.out.ch 8 (by decide)).trans (congrArg some (HNL.out 8 (by decide)))
            go_wp2
            go_end0
            refine ⟨rfl, ?_⟩
            rw [pdisp_out n ⟨ps, da, dl, pl, cmd, 11⟩ b k2 c2 (by have h_ := HK2.out; rw [HTQ.out] at h_; exact h_) HC2.out (by show ¬ ((11 : Int) = 1 ∨ (11 : Int) = 2 ∨ (11 : Int) = 3 ∨ (11 : Int) = 8 ∨ (11 : Int) = 9); decide)]
            exact H8.out
          · clear hl hh
            have hq : ∀ w_ : World, (binOp .neq 89 .nilFunc .nilFunc).run Tryd.prog w_ = .ok (.bool false) w_ := fun w_ => by kernel_rfl
            have ch := (H8.out.ch 6 (by decide)).trans (congrArg some (HNL.out 6 (by decide)))
            go_wp2
            go_end0
            refine ⟨rfl, ?_⟩
            rw [pdisp_out n ⟨ps, da, dl, pl, cmd, 12⟩ b k2 c2 (by have h_ := HK2.out; rw [HTQ.out] at h_; exact h_) HC2.out (by show ¬ ((12 : Int) = 1 ∨ (12 : Int) = 2 ∨ (12 : Int) = 3 ∨ (12 : Int) = 8 ∨ (12 : Int) = 9); decide)]
            exact H8.out
          · clear hl hh
            have hq : ∀ w_ : World, (binOp .neq 89 .nilFunc .nilFunc).run Tryd.prog w_ = .ok (.bool false) w_ := fun w_ => by kernel_rfl
            have ch := (H8.out.ch 7 (by decide)).trans (congrArg some (HNL.out 7 (by decide)))
            go_wp2
            go_end0
            refine ⟨rfl, ?_⟩
            rw [pdisp_out n ⟨ps, da, dl, pl, cmd, 13⟩ b k2 c2 (by have h_ := HK2.out; rw [HTQ.out] at h_; exact h_) HC2.out (by show ¬ ((13 : Int) = 1 ∨ (13 : Int) = 2 ∨ (13 : Int) = 3 ∨ (13 : Int) = 8 ∨ (13 : Int) = 9); decide)]
            exact H8.out
end Go.Proofs.YtmpmfdghdaofhaaDoor.Pm
