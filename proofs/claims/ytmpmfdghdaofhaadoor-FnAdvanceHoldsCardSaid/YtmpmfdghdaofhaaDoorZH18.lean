/- Texts of this claim, joined; what isn't needed is left out (wip/slim.py). -/
import Derived.Test.YtmpmfdghdaofhaaDoorZH9
import Derived.Test.YtmpmfdghdaofhaaDoorZH11
namespace Go.Proofs.YtmpmfdghdaofhaaDoor.Sp
set_option linter.unusedVariables false
set_option linter.unusedSimpArgs false
open Go Go.RowKit Go.Proofs.YtmpmfdghdaofhaaDoor.Pm Go.Proofs.YtmpmfdghdaofhaaDoorW.PrintWords Go.Proofs.YtmpmfdghdaofhaaDoorW.PrintLast Go.Proofs.YtmpmfdghdaofhaaDoorW.PrintMore
structure SM where
  ps : List Int
  da : List Int
  pt : List Int
  cnt : Nat
  cmd : Int
  st : Int
structure EV where
  k : Int
  r : Int
  c : Int
  cmd : Int
  ps : List Int
  da : List Int
structure VE where
  v : Value
  e : List EV
def Ev1 (w : World) (B : Nat) (ok : Nat → Prop) (e : List Value) (q : EV) : Prop :=
  ∃ vi vo : Value, e = [.int .i64 q.k, .int .i64 q.r, .int .u8 q.c, .int .i64 q.cmd, vi, vo] ∧ Kd.R (Kd.int .i64) 2 w B ok vi q.ps ∧ Kd.R (Kd.int .u8) 5 w B ok vo q.da
def HEv (w : World) (B : Nat) (ok : Nat → Prop) (xs : List (List Value)) (qs : List EV) : Prop :=
  xs.length = qs.length ∧ ∀ (i : Nat) (e : List Value) (q : EV), xs[i]? = some e → qs[i]? = some q → Ev1 w B ok e q
theorem Ev1.plain (w : World) (B : Nat) (ok : Nat → Prop) (k r c cmd : Int) : Ev1 w B ok [.int .i64 k, .int .i64 r, .int .u8 c, .int .i64 cmd, .slice none 0 0, .slice none 0 0] ⟨k, r, c, cmd, [], []⟩ := ⟨_, _, rfl, Kd.R_nil _ _ _ _ _, Kd.R_nil _ _ _ _ _⟩
theorem HEv.on {w w' : World} {B B' : Nat} {ok ok' : Nat → Prop} {xs : List (List Value)} {qs : List EV} (h : HEv w B ok xs qs) (hi : ∀ v l, Kd.R (Kd.int .i64) 2 w B ok v l → Kd.R (Kd.int .i64) 2 w' B' ok' v l) (ho : ∀ v l, Kd.R (Kd.int .u8) 5 w B ok v l → Kd.R (Kd.int .u8) 5 w' B' ok' v l) : HEv w' B' ok' xs qs :=
  ⟨h.1, fun i e q he hq => by
    obtain ⟨vi, vo, h1, h2, h3⟩ := h.2 i e q he hq
    exact ⟨vi, vo, h1, hi _ _ h2, ho _ _ h3⟩⟩
theorem Ev1.on {w w' : World} {B B' : Nat} {ok ok' : Nat → Prop} {e : List Value} {q : EV} (h : Ev1 w B ok e q) (hi : ∀ v l, Kd.R (Kd.int .i64) 2 w B ok v l → Kd.R (Kd.int .i64) 2 w' B' ok' v l) (ho : ∀ v l, Kd.R (Kd.int .u8) 5 w B ok v l → Kd.R (Kd.int .u8) 5 w' B' ok' v l) : Ev1 w' B' ok' e q := by
  obtain ⟨vi, vo, h1, h2, h3⟩ := h
  exact ⟨vi, vo, h1, hi _ _ h2, ho _ _ h3⟩
theorem HEv.below {w w' : World} {B : Nat} {ok : Nat → Prop} {xs : List (List Value)} {qs : List EV} (h : HEv w B ok xs qs) (hb : Below w.heap.size w w') : HEv w' B ok xs qs :=
  h.on (fun _ _ h => Kd.R_below h hb) (fun _ _ h => Kd.R_below h hb)
theorem HEv.nil (w : World) (B : Nat) (ok : Nat → Prop) : HEv w B ok [] [] := ⟨rfl, fun i e q h => by simp at h⟩
theorem HEv.snoc {w : World} {B : Nat} {ok : Nat → Prop} {xs : List (List Value)} {qs : List EV} (h : HEv w B ok xs qs) {e : List Value} {q : EV} (hh : Ev1 w B ok e q) : HEv w B ok (xs ++ [e]) (qs ++ [q]) := by
  refine ⟨by rw [List.length_append, List.length_append, h.1]; rfl, fun i e' q' he hq => ?_⟩
  by_cases hi : i < xs.length
  · rw [List.getElem?_append_left hi] at he
    rw [List.getElem?_append_left (by have := h.1; omega)] at hq
    exact h.2 i e' q' he hq
  · rw [List.getElem?_append_right (by omega)] at he
    rw [List.getElem?_append_right (by have := h.1; omega)] at hq
    have hz : i - xs.length = 0 := by
      rcases Nat.eq_zero_or_pos (i - xs.length) with h0 | h0
      · exact h0
      · rw [List.getElem?_eq_none (by simp; omega)] at he
        cases he
    rw [hz] at he
    rw [show i - qs.length = 0 by have := h.1; omega] at hq
    simp only [List.getElem?_cons_zero, Option.some.injEq] at he hq
    subst he hq
    exact hh
abbrev okE (gq : Nat) (vd vp : Value) : Nat → Prop := fun k => k ≠ gq ∧ some k ≠ vd.ownBlock ∧ some k ≠ vp.ownBlock
structure FarB (B : Nat) (w0 W : World) (gm gq : Nat) : Prop where
  os : W.os = w0.os
  tape : W.tape = w0.tape
  output : W.output = w0.output
  size : w0.heap.size ≤ W.heap.size
  block : ∀ k, k < B → k ≠ gm → k ≠ gq → W.heap[k]? = w0.heap[k]?
theorem FarB.refl (B : Nat) (w : World) (gm gq : Nat) : FarB B w w gm gq := ⟨rfl, rfl, rfl, Nat.le_refl _, fun _ _ _ _ => rfl⟩
theorem FarB.step {B : Nat} {w0 W W' : World} {gm gq : Nat} (h : FarB B w0 W gm gq) (k : Below B W W') : FarB B w0 W' gm gq :=
  ⟨k.os.trans h.os, k.tape.trans h.tape, k.output.trans h.output, Nat.le_trans h.size k.size, fun i hi h1 h2 => (k.block i hi).trans (h.block i hi h1 h2)⟩
theorem FarB.trans {B : Nat} {w0 W W' : World} {gm gq : Nat} (h : FarB B w0 W gm gq) (k : FarB B W W' gm gq) : FarB B w0 W' gm gq :=
  ⟨k.os.trans h.os, k.tape.trans h.tape, k.output.trans h.output, Nat.le_trans h.size k.size, fun i hi h1 h2 => (k.block i hi h1 h2).trans (h.block i hi h1 h2)⟩
theorem FarB.set {B : Nat} {w0 W : World} {gm gq q j : Nat} (h : FarB B w0 W gm gq) (hq : q = gm ∨ q = gq) (v : Value) : FarB B w0 (W.setCell ⟨q, j, none⟩ v) gm gq := by
  have hb : Below 0 W (W.setCell ⟨q, j, none⟩ v) := (Below.refl 0 W).setCell (Nat.zero_le _) v
  exact ⟨hb.os.trans h.os, hb.tape.trans h.tape, hb.output.trans h.output, Nat.le_trans h.size hb.size, fun i hi h1 h2 => (Below.heap_setCell W ⟨q, j, none⟩ v i (by rcases hq with e | e <;> (subst e; assumption))).trans (h.block i hi h1 h2)⟩
theorem FarB.below {B : Nat} {w0 W : World} {gm gq : Nat} (h : FarB B w0 W gm gq) (hm : B ≤ gm) (hq : B ≤ gq) : Below B w0 W :=
  ⟨h.os, h.tape, h.output, h.size, fun k hk => h.block k hk (by omega) (by omega)⟩
def sc (gq n : Nat) (D : Int) (vd vp ve : Value) (cnt : Nat) (cmd st : Int) : Array Value :=
  #[.int .i64 (n : Int), .int .i64 D, .int .i64 st, .int .i64 (cnt : Int), .int .i64 cmd, .slice (some ⟨gq, 0, none⟩) n n, vd, vp, ve]
structure MV (B : Nat) (w0 W : World) (gm gq n : Nat) (D : Int) (T : Nat) (s : SM) (vd vp : Value) (ve : VE) : Prop where
  bm : W.heap[gm]? = some (.cells (sc gq n D vd vp ve.v s.cnt s.cmd s.st) 40 (0, 0))
  bq : W.heap[gq]? = some (.cells (cellsP s.ps) 2 (0, 0))
  rd : Kd.R (Kd.int .u8) 5 W B (fun _ => True) vd s.da
  rp : Kd.R (Kd.int .u8) 5 W B (fun _ => True) vp s.pt
  re : ∃ ev : List (List Value), ev.length ≤ T ∧ Kd.R (Kd.raw 6) 71 W B (fun _ => True) ve.v ev ∧ HEv W B (okE gq vd vp) ev ve.e
  sep : ∀ k, vd.ownBlock = some k → some k ≠ vp.ownBlock
  hn : s.ps.length = n
  ld : s.da.length ≤ T
  lp : s.pt.length ≤ T
  b : FarB B w0 W gm gq
  lt : B ≤ W.heap.size
section
variable {B : Nat} {w0 W W' : World} {gm gq n T : Nat} {D : Int} {s : SM} {vd vp : Value} {ve : VE}
theorem MV.n1 (h : MV B w0 W gm gq n D T s vd vp ve) : gq ≠ gm := by
  intro e
  have h1 := h.bq
  rw [e, h.bm] at h1
  simp at h1
theorem MV.more (h : MV B w0 W gm gq n D T s vd vp ve) {T' : Nat} (ht : T ≤ T') : MV B w0 W gm gq n D T' s vd vp ve := by
  obtain ⟨ev, hl, hr, he⟩ := h.re
  exact ⟨h.bm, h.bq, h.rd, h.rp, ⟨ev, by omega, hr, he⟩, h.sep, h.hn, by have := h.ld; omega, by have := h.lp; omega, h.b, h.lt⟩
theorem MV.on (h : MV B w0 W gm gq n D T s vd vp ve) (hb : Below W.heap.size W W') : MV B w0 W' gm gq n D T s vd vp ve := by
  obtain ⟨ev, hl, hr, he⟩ := h.re
  exact ⟨(hb.block _ (blk_lt h.bm)).trans h.bm, (hb.block _ (blk_lt h.bq)).trans h.bq, Kd.R_below h.rd hb, Kd.R_below h.rp hb, ⟨ev, hl, Kd.R_below hr hb, he.below hb⟩, h.sep, h.hn, h.ld, h.lp, h.b.step (hb.mono h.lt), Nat.le_trans h.lt hb.size⟩
theorem MV.drew (h : MV B w0 W gm gq n D T s vd vp ve) : MV B w0 W.drew gm gq n D T s vd vp ve := h.on (below_drew (Below.refl _ _))
theorem set_size (W : World) (p : Addr) (v : Value) : W.heap.size ≤ (W.setCell p v).heap.size := ((Below.refl 0 W).setCell (Nat.zero_le _) v).size
theorem MV.set_ (h : MV B w0 W gm gq n D T s vd vp ve) (j : Nat) (v : Value) (cnt' : Nat) (cmd' st' : Int) (hc : (sc gq n D vd vp ve.v s.cnt s.cmd s.st).setIfInBounds j v = sc gq n D vd vp ve.v cnt' cmd' st') :
    MV B w0 (W.setCell ⟨gm, j, none⟩ v) gm gq n D T ⟨s.ps, s.da, s.pt, cnt', cmd', st'⟩ vd vp ve := by
  obtain ⟨ev, hl, hr, he⟩ := h.re
  exact ⟨(blk_set h.bm j v).trans (by rw [hc]), blk_far h.bq (p := ⟨gm, j, none⟩) h.n1 _, Kd.R_set h.rd h.bm (by decide) j v, Kd.R_set h.rp h.bm (by decide) j v, ⟨ev, hl, Kd.R_set hr h.bm (by decide) j v, he.on (fun _ _ hh => Kd.R_set hh h.bm (by decide) j v) (fun _ _ hh => Kd.R_set hh h.bm (by decide) j v)⟩, h.sep, h.hn, h.ld, h.lp, h.b.set (.inl rfl) _, Nat.le_trans h.lt (set_size _ _ _)⟩
theorem MV.set_st (h : MV B w0 W gm gq n D T s vd vp ve) (x : Int) : MV B w0 (W.setCell ⟨gm, 2, none⟩ (.int .i64 x)) gm gq n D T ⟨s.ps, s.da, s.pt, s.cnt, s.cmd, x⟩ vd vp ve := h.set_ 2 _ _ _ _ rfl
theorem MV.set_cnt (h : MV B w0 W gm gq n D T s vd vp ve) (x : Nat) (y : Int) (hy : y = (x : Int)) : MV B w0 (W.setCell ⟨gm, 3, none⟩ (.int .i64 y)) gm gq n D T ⟨s.ps, s.da, s.pt, x, s.cmd, s.st⟩ vd vp ve := h.set_ 3 _ _ _ _ (by rw [hy]; rfl)
theorem MV.set_cmd (h : MV B w0 W gm gq n D T s vd vp ve) (x : Int) : MV B w0 (W.setCell ⟨gm, 4, none⟩ (.int .i64 x)) gm gq n D T ⟨s.ps, s.da, s.pt, s.cnt, x, s.st⟩ vd vp ve := h.set_ 4 _ _ _ _ rfl
theorem MV.set_p (h : MV B w0 W gm gq n D T s vd vp ve) (i : Nat) (x : Int) : MV B w0 (W.setCell ⟨gq, i, none⟩ (.int .i64 x)) gm gq n D T ⟨s.ps.set i x, s.da, s.pt, s.cnt, s.cmd, s.st⟩ vd vp ve := by
  obtain ⟨ev, hl, hr, he⟩ := h.re
  exact ⟨blk_far h.bm (p := ⟨gq, i, none⟩) h.n1.symm _, (blk_set h.bq i _).trans (by rw [cellsP_set]), Kd.R_set h.rd h.bq (by decide) i _, Kd.R_set h.rp h.bq (by decide) i _, ⟨ev, hl, Kd.R_set hr h.bq (by decide) i _, he.on (fun _ _ hh => Kd.R_step hh (fun k ho hk => Below.heap_setCell W ⟨gq, i, none⟩ _ k ho.1)) (fun _ _ hh => Kd.R_set hh h.bq (by decide) i _)⟩, h.sep, List.length_set.trans h.hn, h.ld, h.lp, h.b.set (.inr rfl) _, Nat.le_trans h.lt (set_size _ _ _)⟩
theorem MV.fresh (h : MV B w0 W gm gq n D T s vd vp ve) {α : Type} {d : Kd α} {e : Nat} {v : Value} {xs : List α} (hE : d.E = []) (hr : d.R e W' W.heap.size (fun _ => True) v xs) : d.R e W' B (okE gq vd vp) v xs :=
  Kd.R_lower (Kd.R_reok hE hr (fun k hk => by
    have hb := Kd.R_base hr k hk
    have hq := blk_lt h.bq
    refine ⟨by omega, fun e => ?_, fun e => ?_⟩
    · have := Kd.R_lt h.rd k e.symm
      omega
    · have := Kd.R_lt h.rp k e.symm
      omega)) h.lt
theorem MV.fm (h : MV B w0 W gm gq n D T s vd vp ve) {α : Type} {d : Kd α} {e : Nat} {v : Value} {xs : List α} (hE : d.E = []) (he : e ≠ 40) (hr : d.R e W B (fun _ => True) v xs) : some gm ≠ v.ownBlock :=
  Kd.R_away (Kd.R_types hr h.bm (by rw [hE]; intro q hq; simp at hq; rw [hq]; exact he)) (fun _ hk => hk.2)
theorem MV.fq (h : MV B w0 W gm gq n D T s vd vp ve) {α : Type} {d : Kd α} {e : Nat} {v : Value} {xs : List α} (hE : d.E = []) (he : e ≠ 2) (hr : d.R e W B (fun _ => True) v xs) : some gq ≠ v.ownBlock :=
  Kd.R_away (Kd.R_types hr h.bq (by rw [hE]; intro q hq; simp at hq; rw [hq]; exact he)) (fun _ hk => hk.2)
theorem MV.cell_grown (h : MV B w0 W gm gq n D T s vd vp ve) {w1 : World} {row : Option Nat} (hg : W.grownBy w1 row) (hne : some gm ≠ row) (j : Nat) : w1.cell? ⟨gm, j, none⟩ = (sc gq n D vd vp ve.v s.cnt s.cmd s.st)[j]? := blk_cell (blk_grown h.bm hg hne) j
theorem MV.free_grown (h : MV B w0 W gm gq n D T s vd vp ve) {w1 : World} {row : Option Nat} (hg : W.grownBy w1 row) (hne : some gm ≠ row) (j : Nat) : w1.frozen? ⟨gm, j, none⟩ = false := blk_frozen (blk_grown h.bm hg hne) j
theorem far_rows {ok1 ok2 : Nat → Prop} {e1 e2 : Nat} {α β : Type} {d1 : Kd α} {d2 : Kd β} {v1 v2 : Value} {xs : List α} {ys : List β} (h1 : d1.R e1 W B ok1 v1 xs) (h2 : d2.R e2 W B ok2 v2 ys) (hE1 : d1.E = []) (hE2 : d2.E = []) (hne : e1 ≠ e2) : ∀ k, v1.ownBlock = some k → some k ≠ v2.ownBlock := by
  intro k hk e
  obtain ⟨_, _, _, q, hq, c, hc⟩ := (Kd.R_bound h1).1 k hk
  obtain ⟨_, _, _, q', hq', c', hc'⟩ := (Kd.R_bound h2).1 k e.symm
  rw [hE1] at hq
  rw [hE2] at hq'
  simp at hq hq'
  subst hq hq'
  rw [hc] at hc'
  simp at hc'
  exact hne hc'.2
theorem ok_far {α : Type} {d : Kd α} {e B : Nat} {W : World} {ok : Nat → Prop} {v u : Value} {xs : List α} (h : d.R e W B ok v xs) (hok : ∀ k, ok k → some k ≠ u.ownBlock) : ∀ k, u.ownBlock = some k → some k ≠ v.ownBlock :=
  fun k hk e => hok k (h.1 k e.symm) hk.symm
theorem row_re {α : Type} {d : Kd α} {e B : Nat} {w1 : World} {ok : Nat → Prop} {gq : Nat} {vd vp v1 v : Value} {xs : List α} {n0 : Nat} (hE : d.E = []) (h : d.R e w1 B ok v xs) (h1 : ∀ k, ok k → okE gq vd vp k) (hlt : ∀ k, v.ownBlock = some k → k < n0) (hat : v1.ownBlock = vd.ownBlock ∨ ∃ b, v1.ownBlock = some b ∧ n0 ≤ b) : d.R e w1 B (okE gq v1 vp) v xs :=
  Kd.R_reok hE h (fun k hk => by
    have ho := h1 k (h.1 k hk)
    refine ⟨ho.1, fun e => ?_, ho.2.2⟩
    rcases hat with e1 | ⟨b, e1, hl⟩
    · rw [e1] at e
      exact ho.2.1 e
    · rw [e1] at e
      obtain rfl := Option.some.inj e
      have := hlt k hk
      omega)
theorem row_re' {α : Type} {d : Kd α} {e B : Nat} {w1 : World} {ok : Nat → Prop} {gq : Nat} {vd vp v1 v : Value} {xs : List α} {n0 : Nat} (hE : d.E = []) (h : d.R e w1 B ok v xs) (h1 : ∀ k, ok k → okE gq vd vp k) (hlt : ∀ k, v.ownBlock = some k → k < n0) (hat : v1.ownBlock = vp.ownBlock ∨ ∃ b, v1.ownBlock = some b ∧ n0 ≤ b) : d.R e w1 B (okE gq vd v1) v xs :=
  Kd.R_reok hE h (fun k hk => by
    have ho := h1 k (h.1 k hk)
    refine ⟨ho.1, ho.2.1, fun e => ?_⟩
    rcases hat with e1 | ⟨b, e1, hl⟩
    · rw [e1] at e
      exact ho.2.2 e
    · rw [e1] at e
      obtain rfl := Option.some.inj e
      have := hlt k hk
      omega)
theorem MV.put_d (h : MV B w0 W gm gq n D T s vd vp ve) {w1 : World} {v1 : Value} {x : Int} (ho : Kd.R (Kd.int .u8) 5 w1 B (fun _ => True) v1 (s.da ++ [x])) (hb : Below B W w1) (hg : W.grownBy w1 vd.ownBlock) (hat : v1.ownBlock = vd.ownBlock ∨ ∃ b, v1.ownBlock = some b ∧ W.heap.size ≤ b) :
    MV B w0 (w1.setCell ⟨gm, 6, none⟩ v1) gm gq n D (T + 1) ⟨s.ps, s.da ++ [x], s.pt, s.cnt, s.cmd, s.st⟩ v1 vp ve := by
  obtain ⟨ev, hl, hr, he⟩ := h.re
  have hne := h.fm rfl (by decide) h.rd
  have hbm := blk_grown h.bm hg hne
  have hbq := blk_grown h.bq hg (h.fq rfl (by decide) h.rd)
  have hp1 := Kd.R_grown2 h.rp rfl hg h.sep
  have he1 := Kd.R_grown2 hr rfl hg (far_rows h.rd hr rfl rfl (by decide))
  have hev : HEv w1 B (okE gq v1 vp) ev ve.e := he.on (fun v l hh => row_re rfl (Kd.R_grown2 hh rfl hg (ok_far hh (fun k hk => hk.2.1))) (fun _ hk => hk) (fun k hk => Kd.R_lt hh k hk) hat) (fun v l hh => row_re rfl (Kd.R_grown2 hh rfl hg (ok_far hh (fun k hk => hk.2.1))) (fun _ hk => hk) (fun k hk => Kd.R_lt hh k hk) hat)
  refine ⟨(blk_set hbm 6 v1).trans rfl, blk_far hbq (p := ⟨gm, 6, none⟩) h.n1 _, Kd.R_set ho hbm (by decide) 6 v1, Kd.R_set hp1 hbm (by decide) 6 v1, ⟨ev, by omega, Kd.R_set he1 hbm (by decide) 6 v1, hev.on (fun _ _ hh => Kd.R_set hh hbm (by decide) 6 v1) (fun _ _ hh => Kd.R_set hh hbm (by decide) 6 v1)⟩, ?_, h.hn, by have := h.ld; simp; omega, by have := h.lp; show s.pt.length ≤ _; omega, (h.b.step hb).set (.inl rfl) _, Nat.le_trans (Nat.le_trans h.lt hb.size) (set_size _ _ _)⟩
  intro k hk e
  rcases hat with e1 | ⟨b, e1, hlt⟩
  · rw [e1] at hk
    exact h.sep k hk e
  · rw [hk] at e1
    obtain rfl := Option.some.inj e1
    have := Kd.R_lt h.rp k e.symm
    omega
theorem MV.put_e (h : MV B w0 W gm gq n D T s vd vp ve) {ev : List (List Value)} (hev : ev.length ≤ T) (hr : Kd.R (Kd.raw 6) 71 W B (fun _ => True) ve.v ev) (he : HEv W B (okE gq vd vp) ev ve.e) {w1 : World} {v1 : Value} {x : List Value} {q : EV} (hx : Ev1 W B (okE gq vd vp) x q) (ho : Kd.R (Kd.raw 6) 71 w1 B (fun _ => True) v1 (ev ++ [x])) (hb : Below B W w1) (hg : W.grownBy w1 ve.v.ownBlock) :
    MV B w0 (w1.setCell ⟨gm, 8, none⟩ v1) gm gq n D (T + 1) s vd vp ⟨v1, ve.e ++ [q]⟩ := by
  have hne := h.fm rfl (by decide) hr
  have hbm := blk_grown h.bm hg hne
  have hbq := blk_grown h.bq hg (h.fq rfl (by decide) hr)
  have hd1 := Kd.R_grown2 h.rd rfl hg (far_rows hr h.rd rfl rfl (by decide))
  have hp1 := Kd.R_grown2 h.rp rfl hg (far_rows hr h.rp rfl rfl (by decide))
  have hs : HEv w1 B (okE gq vd vp) (ev ++ [x]) (ve.e ++ [q]) := (he.snoc hx).on (fun v l hh => Kd.R_grown2 hh rfl hg (far_rows hr hh rfl rfl (by decide))) (fun v l hh => Kd.R_grown2 hh rfl hg (far_rows hr hh rfl rfl (by decide)))
  exact ⟨(blk_set hbm 8 v1).trans rfl, blk_far hbq (p := ⟨gm, 8, none⟩) h.n1 _, Kd.R_set hd1 hbm (by decide) 8 v1, Kd.R_set hp1 hbm (by decide) 8 v1, ⟨_, by simp; omega, Kd.R_set ho hbm (by decide) 8 v1, hs.on (fun _ _ hh => Kd.R_set hh hbm (by decide) 8 v1) (fun _ _ hh => Kd.R_set hh hbm (by decide) 8 v1)⟩, h.sep, h.hn, by have := h.ld; omega, by have := h.lp; omega, (h.b.step hb).set (.inl rfl) _, Nat.le_trans (Nat.le_trans h.lt hb.size) (set_size _ _ _)⟩
theorem MV.no_d (h : MV B w0 W gm gq n D T s vd vp ve) : MV B w0 (W.setCell ⟨gm, 6, none⟩ (.slice none 0 0)) gm gq n D T ⟨s.ps, [], s.pt, s.cnt, s.cmd, s.st⟩ (.slice none 0 0) vp ve := by
  obtain ⟨ev, hl, hr, he⟩ := h.re
  have hev : HEv W B (okE gq (.slice none 0 0) vp) ev ve.e := he.on (fun _ _ hh => Kd.R_mono hh (fun k hk => ⟨hk.1, by simp [Value.ownBlock], hk.2.2⟩)) (fun _ _ hh => Kd.R_mono hh (fun k hk => ⟨hk.1, by simp [Value.ownBlock], hk.2.2⟩))
  exact ⟨(blk_set h.bm 6 _).trans rfl, blk_far h.bq (p := ⟨gm, 6, none⟩) h.n1 _, Kd.R_nil _ _ _ _ _, Kd.R_set h.rp h.bm (by decide) 6 _, ⟨ev, hl, Kd.R_set hr h.bm (by decide) 6 _, hev.on (fun _ _ hh => Kd.R_set hh h.bm (by decide) 6 _) (fun _ _ hh => Kd.R_set hh h.bm (by decide) 6 _)⟩, fun k hk => by simp [Value.ownBlock] at hk, h.hn, Nat.zero_le _, h.lp, h.b.set (.inl rfl) _, Nat.le_trans h.lt (set_size _ _ _)⟩
theorem MV.new_p (h : MV B w0 W gm gq n D T s vd vp ve) {w1 : World} {v1 : Value} {x : Int} (ho : Kd.R (Kd.int .u8) 5 w1 W.heap.size (fun _ => True) v1 [x]) (hb : Below W.heap.size W w1) :
    MV B w0 (w1.setCell ⟨gm, 7, none⟩ v1) gm gq n D (T + 1) ⟨s.ps, s.da, [x], s.cnt, s.cmd, s.st⟩ vd v1 ve := by
  have h1 := h.on hb
  obtain ⟨ev, hl, hr, he⟩ := h.re
  have hat : v1.ownBlock = vp.ownBlock ∨ ∃ b, v1.ownBlock = some b ∧ W.heap.size ≤ b := by
    obtain ⟨g, c, e, hb, _⟩ := Kd.R_form ho (by simp)
    exact .inr ⟨g, by rw [e]; rfl, hb⟩
  have hev : HEv w1 B (okE gq vd v1) ev ve.e := he.on (fun v l hh => row_re' rfl (Kd.R_below hh hb) (fun _ hk => hk) (fun k hk => Kd.R_lt hh k hk) hat) (fun v l hh => row_re' rfl (Kd.R_below hh hb) (fun _ hk => hk) (fun k hk => Kd.R_lt hh k hk) hat)
  have hr1 := Kd.R_below hr hb
  refine ⟨(blk_set h1.bm 7 v1).trans rfl, blk_far h1.bq (p := ⟨gm, 7, none⟩) h1.n1 _, Kd.R_set h1.rd h1.bm (by decide) 7 v1, Kd.R_set (Kd.R_lower ho h.lt) h1.bm (by decide) 7 v1, ⟨ev, by omega, Kd.R_set hr1 h1.bm (by decide) 7 v1, hev.on (fun _ _ hh => Kd.R_set hh h1.bm (by decide) 7 v1) (fun _ _ hh => Kd.R_set hh h1.bm (by decide) 7 v1)⟩, ?_, h.hn, by have := h.ld; show s.da.length ≤ _; omega, by simp, h1.b.set (.inl rfl) _, Nat.le_trans h1.lt (set_size _ _ _)⟩
  intro k hk e
  have h2 := Kd.R_lt h.rd k hk
  have h3 := Kd.R_base ho k e.symm
  omega
theorem MV.c0 (h : MV B w0 W gm gq n D T s vd vp ve) : W.cell? ⟨gm, 0, none⟩ = some (.int .i64 (n : Int)) := (blk_cell h.bm 0).trans rfl
theorem MV.c1 (h : MV B w0 W gm gq n D T s vd vp ve) : W.cell? ⟨gm, 1, none⟩ = some (.int .i64 D) := (blk_cell h.bm 1).trans rfl
theorem MV.c2 (h : MV B w0 W gm gq n D T s vd vp ve) : W.cell? ⟨gm, 2, none⟩ = some (.int .i64 s.st) := (blk_cell h.bm 2).trans rfl
theorem MV.c3 (h : MV B w0 W gm gq n D T s vd vp ve) : W.cell? ⟨gm, 3, none⟩ = some (.int .i64 (s.cnt : Int)) := (blk_cell h.bm 3).trans rfl
theorem MV.c4 (h : MV B w0 W gm gq n D T s vd vp ve) : W.cell? ⟨gm, 4, none⟩ = some (.int .i64 s.cmd) := (blk_cell h.bm 4).trans rfl
theorem MV.c5 (h : MV B w0 W gm gq n D T s vd vp ve) : W.cell? ⟨gm, 5, none⟩ = some (.slice (some ⟨gq, 0, none⟩) n n) := (blk_cell h.bm 5).trans rfl
theorem MV.c6 (h : MV B w0 W gm gq n D T s vd vp ve) : W.cell? ⟨gm, 6, none⟩ = some vd := (blk_cell h.bm 6).trans rfl
theorem MV.c7 (h : MV B w0 W gm gq n D T s vd vp ve) : W.cell? ⟨gm, 7, none⟩ = some vp := (blk_cell h.bm 7).trans rfl
theorem MV.c8 (h : MV B w0 W gm gq n D T s vd vp ve) : W.cell? ⟨gm, 8, none⟩ = some ve.v := (blk_cell h.bm 8).trans rfl
theorem MV.free (h : MV B w0 W gm gq n D T s vd vp ve) (j : Nat) : W.frozen? ⟨gm, j, none⟩ = false := blk_frozen h.bm j
theorem MV.freep (h : MV B w0 W gm gq n D T s vd vp ve) (j : Nat) : W.frozen? ⟨gq, j, none⟩ = false := blk_frozen h.bq j
theorem MV.cpx (h : MV B w0 W gm gq n D T s vd vp ve) {i : Nat} {x : Int} (hi : i < n) (hx : x = s.ps.getD i 0) : W.cell? ⟨gq, i, none⟩ = some (.int .i64 x) := by
  rw [blk_cell h.bq i]
  unfold cellsP
  have hl : i < s.ps.length := by rw [h.hn]; exact hi
  rw [List.getElem?_toArray, List.getElem?_map, List.getElem?_eq_getElem hl, hx, List.getD_eq_getElem?_getD, List.getElem?_eq_getElem hl]
  rfl
theorem MV.cps {ps da pt : List Int} {cnt : Nat} {cmd st : Int} {i : Nat} {v : Int} (h : MV B w0 W gm gq n D T ⟨ps.set i v, da, pt, cnt, cmd, st⟩ vd vp ve) (hi : i < n) : W.cell? ⟨gq, i, none⟩ = some (.int .i64 v) := by
  have hl : i < ps.length := by have := h.hn; simp only [List.length_set] at this; omega
  refine h.cpx hi ?_
  show v = (ps.set i v).getD i 0
  rw [List.getD_eq_getElem?_getD, List.getElem?_set_self hl]
  rfl
end
def sclear (s : SM) : SM := ⟨s.ps.set 0 2147483647, s.da, s.pt, 0, 0, s.st⟩
set_option maxHeartbeats 8000000 in
set_option maxRecDepth 100000 in
theorem clear_ (B : Nat) (w0 w : World) (gm gq n T : Nat) (D : Int) (s : SM) (vd vp : Value) (ve : VE) (h : MV B w0 w gm gq n D T s vd vp ve) (hn : 0 < n) :
    Calls Tryd.prog 40 #[.pointer (some ⟨gm, 0, none⟩)] w fun e w' => e = .returned (.tuple #[]) ∧ MV B w0 w' gm gq n D T (sclear s) vd vp ve := by
  have t0 : decide (0 < (n : Int)) = true := decide_eq_true (by omega)
  have H1 := h.set_p 0 2147483647
  have H2 := H1.set_cnt 0 0 rfl
  have H3 := Aside0.mk (H2.set_cmd 0)
  have h0 := h.c0
  have h5 := h.c5
  have q0 := h.cpx (i := 0) hn rfl
  have qf := h.freep 0
  have q1 : (0 : Int) < (n : Int) := by omega
  have h3 := H1.c3
  have f3 := H1.free 3
  have h4 := H2.c4
  have f4 := H2.free 4
  clear h H1 H2
  go_enter Tryd.func40, Tryd.ntmps40
  go_wp2
  go_end0
  exact ⟨rfl, H3.out⟩
end Go.Proofs.YtmpmfdghdaofhaaDoor.Sp

namespace Go.Proofs.YtmpmfdghdaofhaaDoor.Sp
set_option linter.unusedVariables false
set_option linter.unusedSimpArgs false
open Go Go.RowKit Go.Proofs.YtmpmfdghdaofhaaDoor.Pm Go.Proofs.YtmpmfdghdaofhaaDoorW.PrintWords Go.Proofs.YtmpmfdghdaofhaaDoorW.PrintLast Go.Proofs.YtmpmfdghdaofhaaDoorW.PrintMore
set_option maxHeartbeats 8000000 in
set_option maxRecDepth 100000 in
theorem number_ (B : Nat) (w0 w : World) (gm gq n T : Nat) (D : Int) (s : SM) (vd vp : Value) (ve : VE) (h : MV B w0 w gm gq n D T s vd vp ve) (hbig : T ≤ 1000000) :
    Calls Tryd.prog 55 #[.pointer (some ⟨gm, 0, none⟩)] w fun e w' => e = .returned (.tuple #[]) ∧ MV B w0 w' gm gq n D T ⟨s.ps, s.da, s.pt, s.cnt, pnum s.da s.cmd, s.st⟩ vd vp ve := by
  obtain ⟨ps, da, pt, cnt, cmd, st⟩ := s
  have hld : da.length ≤ T := h.ld
  obtain ⟨A, cap, hvd⟩ : ∃ A cap, vd = .slice A da.length cap := Kd.R_slice h.rd
  obtain ⟨R, hR⟩ : ∃ R, R = pnum da cmd := ⟨_, rfl⟩
  suffices hh : Calls Tryd.prog 55 #[.pointer (some ⟨gm, 0, none⟩)] w fun e w' => e = .returned (.tuple #[]) ∧ MV B w0 w' gm gq n D T ⟨ps, da, pt, cnt, R, st⟩ vd vp ve by rw [hR] at hh; exact hh
  obtain ⟨L, hL⟩ : ∃ L, L = da.length := ⟨_, rfl⟩
  rw [← hL] at hvd
  subst hvd
  have HR := Aside0.mk hR
  have H0 := Aside0.mk h
  have HL := Aside0.mk hL
  have HBG := Aside0.mk (show L ≤ 1000000 by omega)
  have c6 := h.c6
  clear h hld hbig hR hL
  go_enter Tryd.func55, Tryd.ntmps55
  go_wp2_with fail
  go_loopw [9] (fun v wr => ∃ (J : Int) (k : Nat) (c : Int), v = .int .i64 J ∧ Aside0 (J = (k : Int)) ∧ Aside0 (k ≤ L) ∧ Aside0 (MV B w0 wr gm gq n D T ⟨ps, da, pt, cnt, c, st⟩ (.slice A L cap) vp ve) ∧ Aside0 (pnum (da.drop k) c = R)) (fun v _ => L - (intOf v).toNat)
  case atStart => exact ⟨0, 0, cmd, rfl, ⟨rfl⟩, ⟨Nat.zero_le _⟩, H0, ⟨HR.out.symm⟩⟩
  case round =>
    clear c6 H0
    obtain ⟨J, k, c, rfl, HJ, HK, H1, HP⟩ := hrel
    have hwr : wrap64 (J + 1) = J + 1 := by have := HJ.out; have := HK.out; have := HBG.out; unfold wrap64; omega
    by_cases hlt : k < L
    · have hj := HJ.out
      have tlt : decide (J < (L : Int)) = true := decide_eq_true (by omega)
      have p0 : 0 ≤ J := by omega
      have p1 : J < (L : Int) := by omega
      obtain ⟨ad, e0, hx⟩ := Kd.at_int (Kd.R_reads' H1.out.rd).2.2 J p0 (by have := HL.out; show J < (da.length : Int); omega)
      cases e0
      obtain ⟨d, hd⟩ : ∃ d, d = rd da J := ⟨_, rfl⟩
      rw [← hd] at hx
      obtain rfl : J = (k : Int) := hj
      rw [Int.toNat_natCast] at hx
      have hdr : da.drop k = d :: da.drop (k + 1) := by
        have hl : k < da.length := by rw [← HL.out]; exact hlt
        rw [List.drop_eq_getElem_cons hl, hd]
        unfold rd
        rw [Int.toNat_natCast, List.getD_eq_getElem?_getD, List.getElem?_eq_getElem hl]
        rfl
      clear hd
      by_cases hdig : d < 48 ∨ 57 < d
      · have hfin : c = R := by
          have h_ := HP.out
          rw [hdr] at h_
          unfold pnum at h_
          rw [if_pos hdig] at h_
          exact h_
        have HF := Aside0.mk hfin
        clear hfin
        by_cases hd1 : d < 48
        · have t1 : decide (d < 48) = true := decide_eq_true hd1
          clear hdig hd1 hdr
          go_wp2
          refine bodyPost_ret (results_none rfl _ _ _) rfl ?_
          exact ⟨rfl, by have h_ := H1.out; rw [HF.out] at h_; exact h_⟩
        · have t1 : decide (d < 48) = false := decide_eq_false hd1
          have t2 : decide (57 < d) = true := decide_eq_true (by omega)
          clear hdig hd1 hdr
          go_wp2
          refine bodyPost_ret (results_none rfl _ _ _) rfl ?_
          exact ⟨rfl, by have h_ := H1.out; rw [HF.out] at h_; exact h_⟩
      · have t1 : decide (d < 48) = false := decide_eq_false (by omega)
        have t2 : decide (57 < d) = false := decide_eq_false (by omega)
        by_cases hc : c = 2147483647
        · have tc : (c == 2147483647) = true := by simpa using hc
          have A1 := H1.out.set_cmd 0
          have a4 := H1.out.c4
          have af := H1.out.free 4
          have A3 := Aside0.mk (A1.set_cmd (d - 48))
          have b4 := A1.c4
          have bf := A1.free 4
          clear A1
          go_wp2_with fail
          go_roundw
          case rel =>
            refine ⟨_, k + 1, (d - 48), rfl, ⟨by first | rfl | (rw [hwr]; rfl)⟩, ⟨by omega⟩, ⟨A3.out⟩, ⟨?_⟩⟩
            have h_ := HP.out
            rw [hdr] at h_
            unfold pnum at h_
            rw [if_neg (by omega), if_pos hc, show wrap64 (wrap64 (0 * 10) + (d - 48)) = d - 48 by unfold wrap64; omega] at h_
            exact h_
          case measure =>
            (try rw [hwr])
            simp [intOf]
            omega
        · have tc : (c == 2147483647) = false := by simpa using hc
          have A1 := H1.out
          have a4 := H1.out.c4
          have af := H1.out.free 4
          have A3 := Aside0.mk (A1.set_cmd (wrap64 ((wrap64 (c * 10)) + (d - 48))))
          clear A1
          go_wp2_with fail
          go_roundw
          case rel =>
            refine ⟨_, k + 1, (wrap64 ((wrap64 (c * 10)) + (d - 48))), rfl, ⟨by first | rfl | (rw [hwr]; rfl)⟩, ⟨by omega⟩, ⟨A3.out⟩, ⟨?_⟩⟩
            have h_ := HP.out
            rw [hdr] at h_
            unfold pnum at h_
            rw [if_neg (by omega), if_neg hc] at h_
            exact h_
          case measure =>
            (try rw [hwr])
            simp [intOf]
            omega
    · have tlt : decide (J < (L : Int)) = false := decide_eq_false (by have := HJ.out; omega)
      have hfin : c = R := by
        have h_ := HP.out
        rw [List.drop_eq_nil_of_le (by have := HL.out; omega)] at h_
        exact h_
      have HF := Aside0.mk hfin
      clear hfin
      go_wp2
      go_end0
      exact ⟨rfl, by have h_ := H1.out; rw [HF.out] at h_; exact h_⟩
end Go.Proofs.YtmpmfdghdaofhaaDoor.Sp

namespace Go.Proofs.YtmpmfdghdaofhaaDoor.Sp
set_option linter.unusedVariables false
set_option linter.unusedSimpArgs false
open Go Go.RowKit Go.Proofs.YtmpmfdghdaofhaaDoor.Pm Go.Proofs.YtmpmfdghdaofhaaDoorW.PrintWords Go.Proofs.YtmpmfdghdaofhaaDoorW.PrintLast Go.Proofs.YtmpmfdghdaofhaaDoorW.PrintMore
def p0T : Bool × List (List Nat × List Nat) := (true, [([], []), ([0], [0]), ([1], [1]), ([2], [2]), ([], []), ([4], [4]), ([5], [5]), ([6], [6]), ([3, 7], [3, 7])])
def p0B : List Nat := [0, 1, 3, 7, 0, 16, 48, 112, 255]
theorem p0_tab : rtab .any (opsOf Tryd.f54 0) = p0T := by kernel_rfl
theorem p0_bits : waitsOk p0T.2 p0B = true := by kernel_rfl
def p2T : Bool × List (List Nat × List Nat) := (true, [([], []), ([0], [0]), ([1], [1]), ([2], [2]), ([], []), ([4], [4]), ([5], [5]), ([6], [6]), ([3, 7], [3, 7]), ([8], [8]), ([9], [9])])
def p2B : List Nat := [0, 1, 3, 7, 0, 16, 48, 112, 255, 511, 1023]
theorem p2_tab : rtab .any (opsOf Tryd.f54 2) = p2T := by kernel_rfl
theorem p2_bits : waitsOk p2T.2 p2B = true := by kernel_rfl
def p3T : Bool × List (List Nat × List Nat) := (true, [([], []), ([0], [0]), ([1], [1]), ([2], [2]), ([], []), ([4], [4]), ([5], [5]), ([6], [6]), ([3, 7, 0, 1, 2, 3, 4, 5, 6, 7], [3, 7]), ([8, 0, 1, 2, 3, 4, 5, 6, 7], [8])])
def p3B : List Nat := [0, 1, 3, 7, 0, 16, 48, 112, 255, 511]
theorem p3_tab : rtab .any (opsOf Tryd.f54 3) = p3T := by kernel_rfl
theorem p3_bits : waitsOk p3T.2 p3B = true := by kernel_rfl
def p4T : Bool × List (List Nat × List Nat) := (true, [([], []), ([0], [0]), ([1], [1]), ([2], [2]), ([], []), ([4], [4]), ([5], [5]), ([6], [6]), ([], []), ([8], [8]), ([9], [9]), ([10], [10]), ([], []), ([12], [12]), ([13], [13]), ([14], [14]), ([11, 15], [11, 15]), ([16], [16]), ([17], [17]), ([], []), ([19], [19]), ([20], [20]), ([18, 21], [18, 21]), ([3, 7, 0, 1, 2, 3, 4, 5, 6, 7, 8, 9, 10, 11, 12, 13, 14, 15, 16, 17, 18, 19, 20, 21, 22], [3, 7]), ([23, 22, 0, 1, 2, 3, 4, 5, 6, 7, 8, 9, 10, 11, 12, 13, 14, 15, 16, 17, 18, 19, 20, 21, 22], [22, 23])])
def p4B : List Nat := [0, 1, 3, 7, 0, 16, 48, 112, 0, 256, 768, 1792, 0, 4096, 12288, 28672, 65280, 130816, 261888, 0, 524288, 1572864, 4194048, 8388607, 16777215]
theorem p4_tab : rtab .any (opsOf Tryd.f54 4) = p4T := by kernel_rfl
theorem p4_bits : waitsOk p4T.2 p4B = true := by kernel_rfl
def p6T : Bool × List (List Nat × List Nat) := (true, [([], []), ([0], [0]), ([1], [1]), ([2], [2]), ([], []), ([4], [4]), ([5], [5]), ([6], [6]), ([], []), ([8], [8]), ([9], [9]), ([10], [10]), ([], []), ([12], [12]), ([13], [13]), ([14], [14]), ([11, 15], [11, 15]), ([16], [16]), ([17], [17]), ([3, 7, 0, 1, 2, 3, 4, 5, 6, 7, 8, 9, 10, 11, 12, 13, 14, 15, 16, 17, 18], [3, 7]), ([19, 18, 0, 1, 2, 3, 4, 5, 6, 7, 8, 9, 10, 11, 12, 13, 14, 15, 16, 17, 18], [18, 19])])
def p6B : List Nat := [0, 1, 3, 7, 0, 16, 48, 112, 0, 256, 768, 1792, 0, 4096, 12288, 28672, 65280, 130816, 261888, 524287, 1048575]
theorem p6_tab : rtab .any (opsOf Tryd.f54 6) = p6T := by kernel_rfl
theorem p6_bits : waitsOk p6T.2 p6B = true := by kernel_rfl
def p8T : Bool × List (List Nat × List Nat) := (true, [([], []), ([0], [0]), ([1], [1]), ([2], [2]), ([], []), ([4], [4]), ([5], [5]), ([6], [6]), ([3, 7], [3, 7])])
def p8B : List Nat := [0, 1, 3, 7, 0, 16, 48, 112, 255]
theorem p8_tab : rtab .any (opsOf Tryd.f54 8) = p8T := by kernel_rfl
theorem p8_bits : waitsOk p8T.2 p8B = true := by kernel_rfl
def p9T : Bool × List (List Nat × List Nat) := (true, [([], []), ([0], [0]), ([1], [1]), ([2], [2]), ([], []), ([4], [4]), ([5], [5]), ([6], [6]), ([3, 7, 0, 1, 2, 3, 4, 5, 6, 7], [3, 7]), ([8, 0, 1, 2, 3, 4, 5, 6, 7], [8])])
def p9B : List Nat := [0, 1, 3, 7, 0, 16, 48, 112, 255, 511]
theorem p9_tab : rtab .any (opsOf Tryd.f54 9) = p9T := by kernel_rfl
theorem p9_bits : waitsOk p9T.2 p9B = true := by kernel_rfl
def qx (s : SM) : Int := s.ps.getD s.cnt 0
def sparam (n : Nat) (s : SM) (b : Int) : SM :=
  if n ≤ s.cnt then s
  else if 48 ≤ b ∧ b ≤ 57 then ⟨s.ps.set s.cnt (wrap64 (wrap64 ((if qx s = 2147483647 then 0 else qx s) * 10) + (b - 48))), s.da, s.pt, s.cnt, s.cmd, s.st⟩
  else if b = 58 then ⟨(s.ps.set s.cnt (Go.bits .or .i64 (qx s) (-2147483648))).set (s.cnt + 1) 2147483647, s.da, s.pt, s.cnt + 1, s.cmd, s.st⟩
  else ⟨s.ps.set (s.cnt + 1) 2147483647, s.da, s.pt, s.cnt + 1, s.cmd, s.st⟩
set_option maxHeartbeats 8000000 in
set_option maxRecDepth 100000 in
theorem pp_dig_miss (B : Nat) (w0 w : World) (gm gq n T : Nat) (D : Int) (s : SM) (vd vp : Value) (ve : VE) (h : MV B w0 w gm gq n D T s vd vp ve) (b : Int) (hd : 48 ≤ b ∧ b ≤ 57) (hpl : s.cnt < n) (hx0 : qx s = 2147483647) :
    Calls Tryd.prog 54 #[.pointer (some ⟨gm, 0, none⟩), .int .u8 b] w fun e w' => e = .returned (.tuple #[]) ∧ MV B w0 w' gm gq n D T (sparam n s b) vd vp ve := by
  obtain ⟨ps, da, pt, cnt, cmd, st⟩ := s
  replace hpl : cnt < n := hpl
  replace hx0 : ps.getD cnt 0 = 2147483647 := hx0
  have hsp : sparam n ⟨ps, da, pt, cnt, cmd, st⟩ b = ⟨ps.set cnt (wrap64 ((wrap64 0) + wrap64 (IntKind.u8.wrap (b - 48)))), da, pt, cnt, cmd, st⟩ := by
    unfold sparam
    rw [if_neg (show ¬ n ≤ cnt by omega), if_pos hd, if_pos (show qx ⟨ps, da, pt, cnt, cmd, st⟩ = 2147483647 from hx0), show wrap64 (IntKind.u8.wrap (b - 48)) = b - 48 by rw [IntKind.wrap_u8]; unfold wrap64; omega]
    rfl
  rw [hsp]
  clear hsp
  obtain ⟨w1, hw1⟩ : ∃ w1, w1 = w := ⟨_, rfl⟩
  rw [← hw1]
  have H1 := Aside0.mk (show MV B w0 w1 gm gq n D T ⟨ps, da, pt, cnt, cmd, st⟩ vd vp ve by rw [hw1]; exact h)
  clear hw1 h
  obtain ⟨x, hx⟩ : ∃ x, x = ps.getD cnt 0 := ⟨_, rfl⟩
  have HX := Aside0.mk hx
  clear hx
  have HPL := Aside0.mk hpl
  have tn : decide ((n : Int) ≤ (cnt : Int)) = false := decide_eq_false (by omega)
  have p0 : (0 : Int) ≤ (cnt : Int) := by omega
  have p1 : (cnt : Int) < (n : Int) := by omega
  have t48 : decide (48 ≤ b) = true := decide_eq_true hd.1
  have t57 : decide (b ≤ 57) = true := decide_eq_true hd.2
  have tx : (x == 2147483647) = true := by rw [HX.out]; simp; exact hx0
  clear hpl hx0 hd
  go_enter Tryd.func54, Tryd.ntmps54
  go_wp2_with fail
  refine start_ (n := 9) (S := (fun w' => w'.cell? ⟨gm, 0, none⟩ = some (.int .i64 (n : Int)) ∧ w'.cell? ⟨gm, 3, none⟩ = some (.int .i64 (cnt : Int)))) (ds := []) #[false, false, false, false, false, false, false, false, false] (by kernel_rfl) rfl rfl ⟨H1.out.c0, H1.out.c3⟩ (fun hHeld => ?_)
  refine with_tabW p0_tab p0_bits (fun HT_ HW_ => ?_)
  have H2d := Aside0.mk (show MV B w0 w1.drew gm gq n D T ⟨ps, da, pt, cnt, cmd, st⟩ vd vp ve from H1.out.drew)
  clear H1
  generalize w1.drew = w2d at H2d hHeld ⊢
  refine pure_ (i := 0) (N := some 4) (v := ?_) (a' := ?_) (zF 9 1) rfl rfl (any_of HT_.out (by kernel_rfl)) (fun _ _ _ h => h) (Or.inl ⟨by rfl, ?_⟩) ?_ ?_
  rotate_left; (intro w'; go_simp; with_reducible rfl); rotate_left; (simp only [Act.put, zA, zZ, zS, i64_w, i32_w]; rfl)
  refine pure_ (i := 1) (N := some 5) (v := ?_) (a' := ?_) (zF 9 3) rfl rfl (any_of HT_.out (by kernel_rfl)) (fun _ _ _ h => h) (Or.inl ⟨by rfl, ?_⟩) ?_ ?_
  rotate_left; (intro w'; go_simp; with_reducible rfl); rotate_left; (simp only [Act.put, zA, zZ, zS, i64_w, i32_w]; rfl)
  refine pure_ (i := 2) (N := some 6) (v := ?_) (a' := ?_) (zF 9 7) rfl rfl (any_of HT_.out (by kernel_rfl)) (fun _ _ _ h => h) (Or.inl ⟨by rfl, ?_⟩) ?_ ?_
  rotate_left; (intro w'; go_simp; with_reducible rfl); rotate_left; (simp only [Act.put, zA, zZ, zS, i64_w, i32_w]; rfl)
  refine pure_ (i := 4) (N := some 8) (v := ?_) (a' := ?_) (zF 9 23) rfl rfl (any_of HT_.out (by kernel_rfl)) (fun _ _ _ h => h) (Or.inl ⟨by rfl, ?_⟩) ?_ ?_
  rotate_left; (intro w'; go_simp; with_reducible rfl); rotate_left; (simp only [Act.put, zA, zZ, zS, i64_w, i32_w]; rfl)
  refine pure_ (i := 5) (N := some 9) (v := ?_) (a' := ?_) (zF 9 55) rfl rfl (any_of HT_.out (by kernel_rfl)) (fun _ _ _ h => h) (Or.inl ⟨by rfl, ?_⟩) ?_ ?_
  rotate_left; (intro w'; go_simp; with_reducible rfl); rotate_left; (simp only [Act.put, zA, zZ, zS, i64_w, i32_w]; rfl)
  refine pure_ (i := 6) (N := some 10) (v := ?_) (a' := ?_) (zF 9 119) rfl rfl (any_of HT_.out (by kernel_rfl)) (fun _ _ _ h => h) (Or.inl ⟨by rfl, ?_⟩) ?_ ?_
  rotate_left; (intro w'; go_simp; with_reducible rfl); rotate_left; (simp only [Act.put, zA, zZ, zS, i64_w, i32_w]; rfl)
  refine take_ (i := 3) (N := some 7) (v := ?_) (a' := ?_) (zF 9 127) rfl rfl (take_ofW HT_.out HW_.out (by kernel_rfl)) (fun _ _ _ h => h) (Or.inl ⟨by rfl, ?_⟩) hHeld ?_ ?_
  rotate_left; (rintro w' ⟨s0, s1⟩; go_simp; with_reducible rfl); rotate_left; (simp only [Act.put, zA, zZ, zS, i64_w, i32_w]; rfl)
  refine take_ (i := 7) (N := some 11) (v := ?_) (a' := ?_) (zF 9 255) rfl rfl (take_ofW HT_.out HW_.out (by kernel_rfl)) (fun _ _ _ h => h) (Or.inl ⟨by rfl, ?_⟩) hHeld ?_ ?_
  rotate_left; (rintro w' ⟨s0, s1⟩; go_simp; with_reducible rfl); rotate_left; (simp only [Act.put, zA, zZ, zS, i64_w, i32_w]; rfl)
  refine pure_ (i := 8) (N := some 12) (v := ?_) (a' := ?_) (zF 9 511) rfl rfl (any_of HT_.out (by kernel_rfl)) (fun _ _ _ h => h) (Or.inl ⟨by rfl, ?_⟩) ?_ ?_
  rotate_left; (intro w'; go_simp; with_reducible rfl); rotate_left; (simp only [Act.put, zA, zZ, zS, i64_w, i32_w]; rfl)
  refine done_ (done_of HT_.out (by kernel_rfl)) ?_
  clear hHeld
  go_wp2_with fail
  refine start_ (n := 11) (S := (fun w' => w'.cell? ⟨gm, 5, none⟩ = some (.slice (some ⟨gq, 0, none⟩) n n) ∧ w'.cell? ⟨gm, 3, none⟩ = some (.int .i64 (cnt : Int)) ∧ w'.cell? ⟨gq, cnt, none⟩ = some (.int .i64 x))) (ds := []) #[false, false, false, false, false, false, false, false, false, false, false] (by kernel_rfl) rfl rfl ⟨H2d.out.c5, H2d.out.c3, H2d.out.cpx HPL.out HX.out⟩ (fun hHeld => ?_)
  refine with_tabW p2_tab p2_bits (fun HT_ HW_ => ?_)
  have H3d := Aside0.mk (show MV B w0 w2d.drew gm gq n D T ⟨ps, da, pt, cnt, cmd, st⟩ vd vp ve from H2d.out.drew)
  clear H2d
  generalize w2d.drew = w3d at H3d hHeld ⊢
  refine pure_ (i := 0) (N := some 19) (v := ?_) (a' := ?_) (zF 11 1) rfl rfl (any_of HT_.out (by kernel_rfl)) (fun _ _ _ h => h) (Or.inl ⟨by rfl, ?_⟩) ?_ ?_
  rotate_left; (intro w'; go_simp; with_reducible rfl); rotate_left; (simp only [Act.put, zA, zZ, zS, i64_w, i32_w]; rfl)
  refine pure_ (i := 1) (N := some 20) (v := ?_) (a' := ?_) (zF 11 3) rfl rfl (any_of HT_.out (by kernel_rfl)) (fun _ _ _ h => h) (Or.inl ⟨by rfl, ?_⟩) ?_ ?_
  rotate_left; (intro w'; go_simp; with_reducible rfl); rotate_left; (simp only [Act.put, zA, zZ, zS, i64_w, i32_w]; rfl)
  refine pure_ (i := 2) (N := some 21) (v := ?_) (a' := ?_) (zF 11 7) rfl rfl (any_of HT_.out (by kernel_rfl)) (fun _ _ _ h => h) (Or.inl ⟨by rfl, ?_⟩) ?_ ?_
  rotate_left; (intro w'; go_simp; with_reducible rfl); rotate_left; (simp only [Act.put, zA, zZ, zS, i64_w, i32_w]; rfl)
  refine pure_ (i := 4) (N := some 23) (v := ?_) (a' := ?_) (zF 11 23) rfl rfl (any_of HT_.out (by kernel_rfl)) (fun _ _ _ h => h) (Or.inl ⟨by rfl, ?_⟩) ?_ ?_
  rotate_left; (intro w'; go_simp; with_reducible rfl); rotate_left; (simp only [Act.put, zA, zZ, zS, i64_w, i32_w]; rfl)
  refine pure_ (i := 5) (N := some 24) (v := ?_) (a' := ?_) (zF 11 55) rfl rfl (any_of HT_.out (by kernel_rfl)) (fun _ _ _ h => h) (Or.inl ⟨by rfl, ?_⟩) ?_ ?_
  rotate_left; (intro w'; go_simp; with_reducible rfl); rotate_left; (simp only [Act.put, zA, zZ, zS, i64_w, i32_w]; rfl)
  refine pure_ (i := 6) (N := some 25) (v := ?_) (a' := ?_) (zF 11 119) rfl rfl (any_of HT_.out (by kernel_rfl)) (fun _ _ _ h => h) (Or.inl ⟨by rfl, ?_⟩) ?_ ?_
  rotate_left; (intro w'; go_simp; with_reducible rfl); rotate_left; (simp only [Act.put, zA, zZ, zS, i64_w, i32_w]; rfl)
  refine take_ (i := 3) (N := some 22) (v := ?_) (a' := ?_) (zF 11 127) rfl rfl (take_ofW HT_.out HW_.out (by kernel_rfl)) (fun _ _ _ h => h) (Or.inl ⟨by rfl, ?_⟩) hHeld ?_ ?_
  rotate_left; (rintro w' ⟨s0, s1, s2⟩; go_simp; with_reducible rfl); rotate_left; (simp only [Act.put, zA, zZ, zS, i64_w, i32_w]; rfl)
  refine take_ (i := 7) (N := some 26) (v := ?_) (a' := ?_) (zF 11 255) rfl rfl (take_ofW HT_.out HW_.out (by kernel_rfl)) (fun _ _ _ h => h) (Or.inl ⟨by rfl, ?_⟩) hHeld ?_ ?_
  rotate_left; (rintro w' ⟨s0, s1, s2⟩; go_simp; with_reducible rfl); rotate_left; (simp only [Act.put, zA, zZ, zS, i64_w, i32_w]; rfl)
  refine pure_ (i := 8) (N := some 27) (v := ?_) (a' := ?_) (zF 11 511) rfl rfl (any_of HT_.out (by kernel_rfl)) (fun _ _ _ h => h) (Or.inl ⟨by rfl, ?_⟩) ?_ ?_
  rotate_left; (intro w'; go_simp; with_reducible rfl); rotate_left; (simp only [Act.put, zA, zZ, zS, i64_w, i32_w]; rfl)
  refine take_ (i := 9) (N := some 28) (v := ?_) (a' := ?_) (zF 11 1023) rfl rfl (take_ofW HT_.out HW_.out (by kernel_rfl)) (fun _ _ _ h => h) (Or.inl ⟨by rfl, ?_⟩) hHeld ?_ ?_
  rotate_left; (rintro w' ⟨s0, s1, s2⟩; go_simp; with_reducible rfl); rotate_left; (simp only [Act.put, zA, zZ, zS, i64_w, i32_w]; rfl)
  refine pure_ (i := 10) (N := some 29) (v := ?_) (a' := ?_) (zF 11 2047) rfl rfl (any_of HT_.out (by kernel_rfl)) (fun _ _ _ h => h) (Or.inl ⟨by rfl, ?_⟩) ?_ ?_
  rotate_left; (intro w'; go_simp; with_reducible rfl); rotate_left; (simp only [Act.put, zA, zZ, zS, i64_w, i32_w]; rfl)
  refine done_ (done_of HT_.out (by kernel_rfl)) ?_
  clear hHeld
  go_wp2_with fail
  refine start_ (n := 10) (S := (fun w' => w'.cell? ⟨gm, 5, none⟩ = some (.slice (some ⟨gq, 0, none⟩) n n) ∧ w'.cell? ⟨gm, 3, none⟩ = some (.int .i64 (cnt : Int)))) (ds := [9]) #[false, false, false, false, false, false, false, false, false, false] (by kernel_rfl) rfl rfl ⟨H3d.out.c5, H3d.out.c3⟩ (fun hHeld => ?_)
  refine with_tabW p3_tab p3_bits (fun HT_ HW_ => ?_)
  have H4d := Aside0.mk (show MV B w0 w3d.drew gm gq n D T ⟨ps, da, pt, cnt, cmd, st⟩ vd vp ve from H3d.out.drew)
  clear H3d
  generalize w3d.drew = w4d at H4d hHeld ⊢
  refine pure_ (i := 0) (N := some 30) (v := ?_) (a' := ?_) (zF 10 1) rfl rfl (any_of HT_.out (by kernel_rfl)) (fun _ _ _ h => h) (Or.inl ⟨by rfl, ?_⟩) ?_ ?_
  rotate_left; (intro w'; go_simp; with_reducible rfl); rotate_left; (simp only [Act.put, zA, zZ, zS, i64_w, i32_w]; rfl)
  refine pure_ (i := 1) (N := some 31) (v := ?_) (a' := ?_) (zF 10 3) rfl rfl (any_of HT_.out (by kernel_rfl)) (fun _ _ _ h => h) (Or.inl ⟨by rfl, ?_⟩) ?_ ?_
  rotate_left; (intro w'; go_simp; with_reducible rfl); rotate_left; (simp only [Act.put, zA, zZ, zS, i64_w, i32_w]; rfl)
  refine pure_ (i := 2) (N := some 32) (v := ?_) (a' := ?_) (zF 10 7) rfl rfl (any_of HT_.out (by kernel_rfl)) (fun _ _ _ h => h) (Or.inl ⟨by rfl, ?_⟩) ?_ ?_
  rotate_left; (intro w'; go_simp; with_reducible rfl); rotate_left; (simp only [Act.put, zA, zZ, zS, i64_w, i32_w]; rfl)
  refine pure_ (i := 4) (N := some 34) (v := ?_) (a' := ?_) (zF 10 23) rfl rfl (any_of HT_.out (by kernel_rfl)) (fun _ _ _ h => h) (Or.inl ⟨by rfl, ?_⟩) ?_ ?_
  rotate_left; (intro w'; go_simp; with_reducible rfl); rotate_left; (simp only [Act.put, zA, zZ, zS, i64_w, i32_w]; rfl)
  refine pure_ (i := 5) (N := some 35) (v := ?_) (a' := ?_) (zF 10 55) rfl rfl (any_of HT_.out (by kernel_rfl)) (fun _ _ _ h => h) (Or.inl ⟨by rfl, ?_⟩) ?_ ?_
  rotate_left; (intro w'; go_simp; with_reducible rfl); rotate_left; (simp only [Act.put, zA, zZ, zS, i64_w, i32_w]; rfl)
  refine pure_ (i := 6) (N := some 36) (v := ?_) (a' := ?_) (zF 10 119) rfl rfl (any_of HT_.out (by kernel_rfl)) (fun _ _ _ h => h) (Or.inl ⟨by rfl, ?_⟩) ?_ ?_
  rotate_left; (intro w'; go_simp; with_reducible rfl); rotate_left; (simp only [Act.put, zA, zZ, zS, i64_w, i32_w]; rfl)
  refine take_ (i := 3) (N := some 33) (v := ?_) (a' := ?_) (zF 10 127) rfl rfl (take_ofW HT_.out HW_.out (by kernel_rfl)) (fun _ _ _ h => h) (Or.inl ⟨by rfl, ?_⟩) hHeld ?_ ?_
  rotate_left; (rintro w' ⟨s0, s1⟩; go_simp; with_reducible rfl); rotate_left; (simp only [Act.put, zA, zZ, zS, i64_w, i32_w]; rfl)
  refine take_ (i := 7) (N := some 37) (v := ?_) (a' := ?_) (zF 10 255) rfl rfl (take_ofW HT_.out HW_.out (by kernel_rfl)) (fun _ _ _ h => h) (Or.inl ⟨by rfl, ?_⟩) hHeld ?_ ?_
  rotate_left; (rintro w' ⟨s0, s1⟩; go_simp; with_reducible rfl); rotate_left; (simp only [Act.put, zA, zZ, zS, i64_w, i32_w]; rfl)
  refine pure_ (i := 8) (N := some 38) (v := ?_) (a' := ?_) (zF 10 511) rfl rfl (any_of HT_.out (by kernel_rfl)) (fun _ _ _ h => h) (Or.inl ⟨by rfl, ?_⟩) ?_ ?_
  rotate_left; (intro w'; go_simp; with_reducible rfl); rotate_left; (simp only [Act.put, zA, zZ, zS, i64_w, i32_w]; rfl)
  refine last_ (i := 9) (N := none) (zF 10 1023) rfl rfl (one_of HT_.out (by kernel_rfl)) (by decide) (fun K hK => ?_)
  have q4d : w4d.cell? ⟨gq, cnt, none⟩ = some (.int .i64 x) := H4d.out.cpx HPL.out HX.out
  have qf4d := H4d.out.freep cnt
  refine skip_ (w1 := ?_) (by rfl) rfl ?_ ?_
  rotate_left
  · go_simp
    with_reducible rfl
  refine hK.out _ _ ?_
  clear hK K
  clear q4d qf4d
  refine done_ (done_of HT_.out (by kernel_rfl)) ?_
  clear hHeld
  have H4 := Aside0.mk (show MV B w0 (w4d.setCell ⟨gq, cnt, none⟩ (.int .i64 0)) gm gq n D T ⟨ps.set cnt 0, da, pt, cnt, cmd, st⟩ vd vp ve from H4d.out.set_p cnt 0)
  clear H4d
  generalize w4d.setCell ⟨gq, cnt, none⟩ (.int .i64 0) = w4 at H4 ⊢
  go_wp2_with fail
  refine start_ (n := 25) (S := (fun w' => w'.cell? ⟨gm, 5, none⟩ = some (.slice (some ⟨gq, 0, none⟩) n n) ∧ w'.cell? ⟨gm, 3, none⟩ = some (.int .i64 (cnt : Int)) ∧ w'.cell? ⟨gq, cnt, none⟩ = some (.int .i64 0))) (ds := [24]) #[false, false, false, false, false, false, false, false, false, false, false, false, false, false, false, false, false, false, false, false, false, false, false, false, false] (by kernel_rfl) rfl rfl ⟨H4.out.c5, H4.out.c3, H4.out.cps HPL.out⟩ (fun hHeld => ?_)
  refine with_tabW p4_tab p4_bits (fun HT_ HW_ => ?_)
  have H5d := Aside0.mk (show MV B w0 w4.drew gm gq n D T ⟨ps.set cnt 0, da, pt, cnt, cmd, st⟩ vd vp ve from H4.out.drew)
  clear H4
  generalize w4.drew = w5d at H5d hHeld ⊢
  refine pure_ (i := 0) (N := some 39) (v := ?_) (a' := ?_) (zF 25 1) rfl rfl (any_of HT_.out (by kernel_rfl)) (fun _ _ _ h => h) (Or.inl ⟨by rfl, ?_⟩) ?_ ?_
  rotate_left; (intro w'; go_simp; with_reducible rfl); rotate_left; (simp only [Act.put, zA, zZ, zS, i64_w, i32_w]; rfl)
  refine pure_ (i := 1) (N := some 40) (v := ?_) (a' := ?_) (zF 25 3) rfl rfl (any_of HT_.out (by kernel_rfl)) (fun _ _ _ h => h) (Or.inl ⟨by rfl, ?_⟩) ?_ ?_
  rotate_left; (intro w'; go_simp; with_reducible rfl); rotate_left; (simp only [Act.put, zA, zZ, zS, i64_w, i32_w]; rfl)
  refine pure_ (i := 2) (N := some 41) (v := ?_) (a' := ?_) (zF 25 7) rfl rfl (any_of HT_.out (by kernel_rfl)) (fun _ _ _ h => h) (Or.inl ⟨by rfl, ?_⟩) ?_ ?_
  rotate_left; (intro w'; go_simp; with_reducible rfl); rotate_left; (simp only [Act.put, zA, zZ, zS, i64_w, i32_w]; rfl)
  refine pure_ (i := 4) (N := some 43) (v := ?_) (a' := ?_) (zF 25 23) rfl rfl (any_of HT_.out (by kernel_rfl)) (fun _ _ _ h => h) (Or.inl ⟨by rfl, ?_⟩) ?_ ?_
  rotate_left; (intro w'; go_simp; with_reducible rfl); rotate_left; (simp only [Act.put, zA, zZ, zS, i64_w, i32_w]; rfl)
  refine pure_ (i := 5) (N := some 44) (v := ?_) (a' := ?_) (zF 25 55) rfl rfl (any_of HT_.out (by kernel_rfl)) (fun _ _ _ h => h) (Or.inl ⟨by rfl, ?_⟩) ?_ ?_
  rotate_left; (intro w'; go_simp; with_reducible rfl); rotate_left; (simp only [Act.put, zA, zZ, zS, i64_w, i32_w]; rfl)
  refine pure_ (i := 6) (N := some 45) (v := ?_) (a' := ?_) (zF 25 119) rfl rfl (any_of HT_.out (by kernel_rfl)) (fun _ _ _ h => h) (Or.inl ⟨by rfl, ?_⟩) ?_ ?_
  rotate_left; (intro w'; go_simp; with_reducible rfl); rotate_left; (simp only [Act.put, zA, zZ, zS, i64_w, i32_w]; rfl)
  refine pure_ (i := 8) (N := some 47) (v := ?_) (a' := ?_) (zF 25 375) rfl rfl (any_of HT_.out (by kernel_rfl)) (fun _ _ _ h => h) (Or.inl ⟨by rfl, ?_⟩) ?_ ?_
  rotate_left; (intro w'; go_simp; with_reducible rfl); rotate_left; (simp only [Act.put, zA, zZ, zS, i64_w, i32_w]; rfl)
  refine pure_ (i := 9) (N := some 48) (v := ?_) (a' := ?_) (zF 25 887) rfl rfl (any_of HT_.out (by kernel_rfl)) (fun _ _ _ h => h) (Or.inl ⟨by rfl, ?_⟩) ?_ ?_
  rotate_left; (intro w'; go_simp; with_reducible rfl); rotate_left; (simp only [Act.put, zA, zZ, zS, i64_w, i32_w]; rfl)
  refine pure_ (i := 10) (N := some 49) (v := ?_) (a' := ?_) (zF 25 1911) rfl rfl (any_of HT_.out (by kernel_rfl)) (fun _ _ _ h => h) (Or.inl ⟨by rfl, ?_⟩) ?_ ?_
  rotate_left; (intro w'; go_simp; with_reducible rfl); rotate_left; (simp only [Act.put, zA, zZ, zS, i64_w, i32_w]; rfl)
  refine pure_ (i := 12) (N := some 51) (v := ?_) (a' := ?_) (zF 25 6007) rfl rfl (any_of HT_.out (by kernel_rfl)) (fun _ _ _ h => h) (Or.inl ⟨by rfl, ?_⟩) ?_ ?_
  rotate_left; (intro w'; go_simp; with_reducible rfl); rotate_left; (simp only [Act.put, zA, zZ, zS, i64_w, i32_w]; rfl)
  refine pure_ (i := 13) (N := some 52) (v := ?_) (a' := ?_) (zF 25 14199) rfl rfl (any_of HT_.out (by kernel_rfl)) (fun _ _ _ h => h) (Or.inl ⟨by rfl, ?_⟩) ?_ ?_
  rotate_left; (intro w'; go_simp; with_reducible rfl); rotate_left; (simp only [Act.put, zA, zZ, zS, i64_w, i32_w]; rfl)
  refine pure_ (i := 14) (N := some 53) (v := ?_) (a' := ?_) (zF 25 30583) rfl rfl (any_of HT_.out (by kernel_rfl)) (fun _ _ _ h => h) (Or.inl ⟨by rfl, ?_⟩) ?_ ?_
  rotate_left; (intro w'; go_simp; with_reducible rfl); rotate_left; (simp only [Act.put, zA, zZ, zS, i64_w, i32_w]; rfl)
  refine pure_ (i := 19) (N := some 58) (v := ?_) (a' := ?_) (zF 25 554871) rfl rfl (any_of HT_.out (by kernel_rfl)) (fun _ _ _ h => h) (Or.inl ⟨by rfl, ?_⟩) ?_ ?_
  rotate_left; (intro w'; go_simp; with_reducible rfl); rotate_left; (simp only [Act.put, zA, zZ, zS, i64_w, i32_w]; rfl)
  refine pure_ (i := 20) (N := some 59) (v := ?_) (a' := ?_) (zF 25 1603447) rfl rfl (any_of HT_.out (by kernel_rfl)) (fun _ _ _ h => h) (Or.inl ⟨by rfl, ?_⟩) ?_ ?_
  rotate_left; (intro w'; go_simp; with_reducible rfl); rotate_left; (simp only [Act.put, zA, zZ, zS, i64_w, i32_w]; rfl)
  refine pure_ (i := 21) (N := some 60) (v := ?_) (a' := ?_) (zF 25 3700599) rfl rfl (any_of HT_.out (by kernel_rfl)) (fun _ _ _ h => h) (Or.inl ⟨by rfl, ?_⟩) ?_ ?_
  rotate_left; (intro w'; go_simp; with_reducible rfl); rotate_left; (simp only [Act.put, zA, zZ, zS, i64_w, i32_w]; rfl)
  refine take_ (i := 3) (N := some 42) (v := ?_) (a' := ?_) (zF 25 3700607) rfl rfl (take_ofW HT_.out HW_.out (by kernel_rfl)) (fun _ _ _ h => h) (Or.inl ⟨by rfl, ?_⟩) hHeld ?_ ?_
  rotate_left; (rintro w' ⟨s0, s1, s2⟩; go_simp; with_reducible rfl); rotate_left; (simp only [Act.put, zA, zZ, zS, i64_w, i32_w]; rfl)
  refine take_ (i := 7) (N := some 46) (v := ?_) (a' := ?_) (zF 25 3700735) rfl rfl (take_ofW HT_.out HW_.out (by kernel_rfl)) (fun _ _ _ h => h) (Or.inl ⟨by rfl, ?_⟩) hHeld ?_ ?_
  rotate_left; (rintro w' ⟨s0, s1, s2⟩; go_simp; with_reducible rfl); rotate_left; (simp only [Act.put, zA, zZ, zS, i64_w, i32_w]; rfl)
  refine take_ (i := 11) (N := some 50) (v := ?_) (a' := ?_) (zF 25 3702783) rfl rfl (take_ofW HT_.out HW_.out (by kernel_rfl)) (fun _ _ _ h => h) (Or.inl ⟨by rfl, ?_⟩) hHeld ?_ ?_
  rotate_left; (rintro w' ⟨s0, s1, s2⟩; go_simp; with_reducible rfl); rotate_left; (simp only [Act.put, zA, zZ, zS, i64_w, i32_w]; rfl)
  refine take_ (i := 15) (N := some 54) (v := ?_) (a' := ?_) (zF 25 3735551) rfl rfl (take_ofW HT_.out HW_.out (by kernel_rfl)) (fun _ _ _ h => h) (Or.inl ⟨by rfl, ?_⟩) hHeld ?_ ?_
  rotate_left; (rintro w' ⟨s0, s1, s2⟩; go_simp; with_reducible rfl); rotate_left; (simp only [Act.put, zA, zZ, zS, i64_w, i32_w]; rfl)
  refine pure_ (i := 16) (N := some 55) (v := ?_) (a' := ?_) (zF 25 3801087) rfl rfl (any_of HT_.out (by kernel_rfl)) (fun _ _ _ h => h) (Or.inl ⟨by rfl, ?_⟩) ?_ ?_
  rotate_left; (intro w'; go_simp; with_reducible rfl); rotate_left; (simp only [Act.put, zA, zZ, zS, i64_w, i32_w]; rfl)
  refine take_ (i := 17) (N := some 56) (v := ?_) (a' := ?_) (zF 25 3932159) rfl rfl (take_ofW HT_.out HW_.out (by kernel_rfl)) (fun _ _ _ h => h) (Or.inl ⟨by rfl, ?_⟩) hHeld ?_ ?_
  rotate_left; (rintro w' ⟨s0, s1, s2⟩; go_simp; with_reducible rfl); rotate_left; (simp only [Act.put, zA, zZ, zS, i64_w, i32_w]; rfl)
  refine pure_ (i := 18) (N := some 57) (v := ?_) (a' := ?_) (zF 25 4194303) rfl rfl (any_of HT_.out (by kernel_rfl)) (fun _ _ _ h => h) (Or.inl ⟨by rfl, ?_⟩) ?_ ?_
  rotate_left; (intro w'; go_simp; with_reducible rfl); rotate_left; (simp only [Act.put, zA, zZ, zS, i64_w, i32_w]; rfl)
  refine pure_ (i := 22) (N := some 61) (v := ?_) (a' := ?_) (zF 25 8388607) rfl rfl (any_of HT_.out (by kernel_rfl)) (fun _ _ _ h => h) (Or.inl ⟨by rfl, ?_⟩) ?_ ?_
  rotate_left; (intro w'; go_simp; with_reducible rfl); rotate_left; (simp only [Act.put, zA, zZ, zS, i64_w, i32_w]; rfl)
  refine pure_ (i := 23) (N := some 62) (v := ?_) (a' := ?_) (zF 25 16777215) rfl rfl (any_of HT_.out (by kernel_rfl)) (fun _ _ _ h => h) (Or.inl ⟨by rfl, ?_⟩) ?_ ?_
  rotate_left; (intro w'; go_simp; with_reducible rfl); rotate_left; (simp only [Act.put, zA, zZ, zS, i64_w, i32_w]; rfl)
  refine last_ (i := 24) (N := none) (zF 25 33554431) rfl rfl (one_of HT_.out (by kernel_rfl)) (by decide) (fun K hK => ?_)
  have q5d : w5d.cell? ⟨gq, cnt, none⟩ = some (.int .i64 0) := H5d.out.cps HPL.out
  have qf5d := H5d.out.freep cnt
  refine skip_ (w1 := ?_) (by rfl) rfl ?_ ?_
  rotate_left
  · go_simp
    with_reducible rfl
  refine hK.out _ _ ?_
  clear hK K
  clear q5d qf5d
  refine done_ (done_of HT_.out (by kernel_rfl)) ?_
  clear hHeld
  have H5 := Aside0.mk (show MV B w0 (w5d.setCell ⟨gq, cnt, none⟩ (.int .i64 (wrap64 ((wrap64 0) + wrap64 (IntKind.u8.wrap (b - 48)))))) gm gq n D T ⟨(ps.set cnt 0).set cnt (wrap64 ((wrap64 0) + wrap64 (IntKind.u8.wrap (b - 48)))), da, pt, cnt, cmd, st⟩ vd vp ve from H5d.out.set_p cnt (wrap64 ((wrap64 0) + wrap64 (IntKind.u8.wrap (b - 48)))))
  clear H5d
  generalize w5d.setCell ⟨gq, cnt, none⟩ (.int .i64 (wrap64 ((wrap64 0) + wrap64 (IntKind.u8.wrap (b - 48))))) = w5 at H5 ⊢
  go_wp2
  refine bodyPost_ret (results_none rfl _ _ _) rfl ?_
  refine ⟨rfl, ?_⟩
  have h_ := H5.out
  rw [List.set_set] at h_
  exact h_
set_option maxHeartbeats 8000000 in
set_option maxRecDepth 100000 in
theorem pp_dig_some (B : Nat) (w0 w : World) (gm gq n T : Nat) (D : Int) (s : SM) (vd vp : Value) (ve : VE) (h : MV B w0 w gm gq n D T s vd vp ve) (b : Int) (hd : 48 ≤ b ∧ b ≤ 57) (hpl : s.cnt < n) (hx0 : qx s ≠ 2147483647) :
    Calls Tryd.prog 54 #[.pointer (some ⟨gm, 0, none⟩), .int .u8 b] w fun e w' => e = .returned (.tuple #[]) ∧ MV B w0 w' gm gq n D T (sparam n s b) vd vp ve := by
  obtain ⟨ps, da, pt, cnt, cmd, st⟩ := s
  replace hpl : cnt < n := hpl
  replace hx0 : ps.getD cnt 0 ≠ 2147483647 := hx0
  have hsp : sparam n ⟨ps, da, pt, cnt, cmd, st⟩ b = ⟨ps.set cnt (wrap64 (wrap64 (ps.getD cnt 0 * 10) + wrap64 (IntKind.u8.wrap (b - 48)))), da, pt, cnt, cmd, st⟩ := by
    unfold sparam
    rw [if_neg (show ¬ n ≤ cnt by omega), if_pos hd, if_neg (show ¬ qx ⟨ps, da, pt, cnt, cmd, st⟩ = 2147483647 from hx0), show wrap64 (IntKind.u8.wrap (b - 48)) = b - 48 by rw [IntKind.wrap_u8]; unfold wrap64; omega]
    rfl
  rw [hsp]
  clear hsp
  obtain ⟨w1, hw1⟩ : ∃ w1, w1 = w := ⟨_, rfl⟩
  rw [← hw1]
  have H1 := Aside0.mk (show MV B w0 w1 gm gq n D T ⟨ps, da, pt, cnt, cmd, st⟩ vd vp ve by rw [hw1]; exact h)
  clear hw1 h
  obtain ⟨x, hx⟩ : ∃ x, x = ps.getD cnt 0 := ⟨_, rfl⟩
  have HX := Aside0.mk hx
  clear hx
  have HPL := Aside0.mk hpl
  have tn : decide ((n : Int) ≤ (cnt : Int)) = false := decide_eq_false (by omega)
  have p0 : (0 : Int) ≤ (cnt : Int) := by omega
  have p1 : (cnt : Int) < (n : Int) := by omega
  have t48 : decide (48 ≤ b) = true := decide_eq_true hd.1
  have t57 : decide (b ≤ 57) = true := decide_eq_true hd.2
  have tx : (x == 2147483647) = false := by rw [HX.out]; simp; exact hx0
  clear hpl hx0 hd
  go_enter Tryd.func54, Tryd.ntmps54
  go_wp2_with fail
  refine start_ (n := 9) (S := (fun w' => w'.cell? ⟨gm, 0, none⟩ = some (.int .i64 (n : Int)) ∧ w'.cell? ⟨gm, 3, none⟩ = some (.int .i64 (cnt : Int)))) (ds := []) #[false, false, false, false, false, false, false, false, false] (by kernel_rfl) rfl rfl ⟨H1.out.c0, H1.out.c3⟩ (fun hHeld => ?_)
  refine with_tabW p0_tab p0_bits (fun HT_ HW_ => ?_)
  have H2d := Aside0.mk (show MV B w0 w1.drew gm gq n D T ⟨ps, da, pt, cnt, cmd, st⟩ vd vp ve from H1.out.drew)
  clear H1
  generalize w1.drew = w2d at H2d hHeld ⊢
  refine pure_ (i := 0) (N := some 4) (v := ?_) (a' := ?_) (zF 9 1) rfl rfl (any_of HT_.out (by kernel_rfl)) (fun _ _ _ h => h) (Or.inl ⟨by rfl, ?_⟩) ?_ ?_
  rotate_left; (intro w'; go_simp; with_reducible rfl); rotate_left; (simp only [Act.put, zA, zZ, zS, i64_w, i32_w]; rfl)
  refine pure_ (i := 1) (N := some 5) (v := ?_) (a' := ?_) (zF 9 3) rfl rfl (any_of HT_.out (by kernel_rfl)) (fun _ _ _ h => h) (Or.inl ⟨by rfl, ?_⟩) ?_ ?_
  rotate_left; (intro w'; go_simp; with_reducible rfl); rotate_left; (simp only [Act.put, zA, zZ, zS, i64_w, i32_w]; rfl)
  refine pure_ (i := 2) (N := some 6) (v := ?_) (a' := ?_) (zF 9 7) rfl rfl (any_of HT_.out (by kernel_rfl)) (fun _ _ _ h => h) (Or.inl ⟨by rfl, ?_⟩) ?_ ?_
  rotate_left; (intro w'; go_simp; with_reducible rfl); rotate_left; (simp only [Act.put, zA, zZ, zS, i64_w, i32_w]; rfl)
  refine pure_ (i := 4) (N := some 8) (v := ?_) (a' := ?_) (zF 9 23) rfl rfl (any_of HT_.out (by kernel_rfl)) (fun _ _ _ h => h) (Or.inl ⟨by rfl, ?_⟩) ?_ ?_
  rotate_left; (intro w'; go_simp; with_reducible rfl); rotate_left; (simp only [Act.put, zA, zZ, zS, i64_w, i32_w]; rfl)
  refine pure_ (i := 5) (N := some 9) (v := ?_) (a' := ?_) (zF 9 55) rfl rfl (any_of HT_.out (by kernel_rfl)) (fun _ _ _ h => h) (Or.inl ⟨by rfl, ?_⟩) ?_ ?_
  rotate_left; (intro w'; go_simp; with_reducible rfl); rotate_left; (simp only [Act.put, zA, zZ, zS, i64_w, i32_w]; rfl)
  refine pure_ (i := 6) (N := some 10) (v := ?_) (a' := ?_) (zF 9 119) rfl rfl (any_of HT_.out (by kernel_rfl)) (fun _ _ _ h => h) (Or.inl ⟨by rfl, ?_⟩) ?_ ?_
  rotate_left; (intro w'; go_simp; with_reducible rfl); rotate_left; (simp only [Act.put, zA, zZ, zS, i64_w, i32_w]; rfl)
  refine take_ (i := 3) (N := some 7) (v := ?_) (a' := ?_) (zF 9 127) rfl rfl (take_ofW HT_.out HW_.out (by kernel_rfl)) (fun _ _ _ h => h) (Or.inl ⟨by rfl, ?_⟩) hHeld ?_ ?_
  rotate_left; (rintro w' ⟨s0, s1⟩; go_simp; with_reducible rfl); rotate_left; (simp only [Act.put, zA, zZ, zS, i64_w, i32_w]; rfl)
  refine take_ (i := 7) (N := some 11) (v := ?_) (a' := ?_) (zF 9 255) rfl rfl (take_ofW HT_.out HW_.out (by kernel_rfl)) (fun _ _ _ h => h) (Or.inl ⟨by rfl, ?_⟩) hHeld ?_ ?_
  rotate_left; (rintro w' ⟨s0, s1⟩; go_simp; with_reducible rfl); rotate_left; (simp only [Act.put, zA, zZ, zS, i64_w, i32_w]; rfl)
  refine pure_ (i := 8) (N := some 12) (v := ?_) (a' := ?_) (zF 9 511) rfl rfl (any_of HT_.out (by kernel_rfl)) (fun _ _ _ h => h) (Or.inl ⟨by rfl, ?_⟩) ?_ ?_
  rotate_left; (intro w'; go_simp; with_reducible rfl); rotate_left; (simp only [Act.put, zA, zZ, zS, i64_w, i32_w]; rfl)
  refine done_ (done_of HT_.out (by kernel_rfl)) ?_
  clear hHeld
  go_wp2_with fail
  refine start_ (n := 11) (S := (fun w' => w'.cell? ⟨gm, 5, none⟩ = some (.slice (some ⟨gq, 0, none⟩) n n) ∧ w'.cell? ⟨gm, 3, none⟩ = some (.int .i64 (cnt : Int)) ∧ w'.cell? ⟨gq, cnt, none⟩ = some (.int .i64 x))) (ds := []) #[false, false, false, false, false, false, false, false, false, false, false] (by kernel_rfl) rfl rfl ⟨H2d.out.c5, H2d.out.c3, H2d.out.cpx HPL.out HX.out⟩ (fun hHeld => ?_)
  refine with_tabW p2_tab p2_bits (fun HT_ HW_ => ?_)
  have H3d := Aside0.mk (show MV B w0 w2d.drew gm gq n D T ⟨ps, da, pt, cnt, cmd, st⟩ vd vp ve from H2d.out.drew)
  clear H2d
  generalize w2d.drew = w3d at H3d hHeld ⊢
  refine pure_ (i := 0) (N := some 19) (v := ?_) (a' := ?_) (zF 11 1) rfl rfl (any_of HT_.out (by kernel_rfl)) (fun _ _ _ h => h) (Or.inl ⟨by rfl, ?_⟩) ?_ ?_
  rotate_left; (intro w'; go_simp; with_reducible rfl); rotate_left; (simp only [Act.put, zA, zZ, zS, i64_w, i32_w]; rfl)
  refine pure_ (i := 1) (N := some 20) (v := ?_) (a' := ?_) (zF 11 3) rfl rfl (any_of HT_.out (by kernel_rfl)) (fun _ _ _ h => h) (Or.inl ⟨by rfl, ?_⟩) ?_ ?_
  rotate_left; (intro w'; go_simp; with_reducible rfl); rotate_left; (simp only [Act.put, zA, zZ, zS, i64_w, i32_w]; rfl)
  refine pure_ (i := 2) (N := some 21) (v := ?_) (a' := ?_) (zF 11 7) rfl rfl (any_of HT_.out (by kernel_rfl)) (fun _ _ _ h => h) (Or.inl ⟨by rfl, ?_⟩) ?_ ?_
  rotate_left; (intro w'; go_simp; with_reducible rfl); rotate_left; (simp only [Act.put, zA, zZ, zS, i64_w, i32_w]; rfl)
  refine pure_ (i := 4) (N := some 23) (v := ?_) (a' := ?_) (zF 11 23) rfl rfl (any_of HT_.out (by kernel_rfl)) (fun _ _ _ h => h) (Or.inl ⟨by rfl, ?_⟩) ?_ ?_
  rotate_left; (intro w'; go_simp; with_reducible rfl); rotate_left; (simp only [Act.put, zA, zZ, zS, i64_w, i32_w]; rfl)
  refine pure_ (i := 5) (N := some 24) (v := ?_) (a' := ?_) (zF 11 55) rfl rfl (any_of HT_.out (by kernel_rfl)) (fun _ _ _ h => h) (Or.inl ⟨by rfl, ?_⟩) ?_ ?_
  rotate_left; (intro w'; go_simp; with_reducible rfl); rotate_left; (simp only [Act.put, zA, zZ, zS, i64_w, i32_w]; rfl)
  refine pure_ (i := 6) (N := some 25) (v := ?_) (a' := ?_) (zF 11 119) rfl rfl (any_of HT_.out (by kernel_rfl)) (fun _ _ _ h => h) (Or.inl ⟨by rfl, ?_⟩) ?_ ?_
  rotate_left; (intro w'; go_simp; with_reducible rfl); rotate_left; (simp only [Act.put, zA, zZ, zS, i64_w, i32_w]; rfl)
  refine take_ (i := 3) (N := some 22) (v := ?_) (a' := ?_) (zF 11 127) rfl rfl (take_ofW HT_.out HW_.out (by kernel_rfl)) (fun _ _ _ h => h) (Or.inl ⟨by rfl, ?_⟩) hHeld ?_ ?_
  rotate_left; (rintro w' ⟨s0, s1, s2⟩; go_simp; with_reducible rfl); rotate_left; (simp only [Act.put, zA, zZ, zS, i64_w, i32_w]; rfl)
  refine take_ (i := 7) (N := some 26) (v := ?_) (a' := ?_) (zF 11 255) rfl rfl (take_ofW HT_.out HW_.out (by kernel_rfl)) (fun _ _ _ h => h) (Or.inl ⟨by rfl, ?_⟩) hHeld ?_ ?_
  rotate_left; (rintro w' ⟨s0, s1, s2⟩; go_simp; with_reducible rfl); rotate_left; (simp only [Act.put, zA, zZ, zS, i64_w, i32_w]; rfl)
  refine pure_ (i := 8) (N := some 27) (v := ?_) (a' := ?_) (zF 11 511) rfl rfl (any_of HT_.out (by kernel_rfl)) (fun _ _ _ h => h) (Or.inl ⟨by rfl, ?_⟩) ?_ ?_
  rotate_left; (intro w'; go_simp; with_reducible rfl); rotate_left; (simp only [Act.put, zA, zZ, zS, i64_w, i32_w]; rfl)
  refine take_ (i := 9) (N := some 28) (v := ?_) (a' := ?_) (zF 11 1023) rfl rfl (take_ofW HT_.out HW_.out (by kernel_rfl)) (fun _ _ _ h => h) (Or.inl ⟨by rfl, ?_⟩) hHeld ?_ ?_
  rotate_left; (rintro w' ⟨s0, s1, s2⟩; go_simp; with_reducible rfl); rotate_left; (simp only [Act.put, zA, zZ, zS, i64_w, i32_w]; rfl)
  refine pure_ (i := 10) (N := some 29) (v := ?_) (a' := ?_) (zF 11 2047) rfl rfl (any_of HT_.out (by kernel_rfl)) (fun _ _ _ h => h) (Or.inl ⟨by rfl, ?_⟩) ?_ ?_
  rotate_left; (intro w'; go_simp; with_reducible rfl); rotate_left; (simp only [Act.put, zA, zZ, zS, i64_w, i32_w]; rfl)
  refine done_ (done_of HT_.out (by kernel_rfl)) ?_
  clear hHeld
  go_wp2_with fail
  refine start_ (n := 25) (S := (fun w' => w'.cell? ⟨gm, 5, none⟩ = some (.slice (some ⟨gq, 0, none⟩) n n) ∧ w'.cell? ⟨gm, 3, none⟩ = some (.int .i64 (cnt : Int)) ∧ w'.cell? ⟨gq, cnt, none⟩ = some (.int .i64 x))) (ds := [24]) #[false, false, false, false, false, false, false, false, false, false, false, false, false, false, false, false, false, false, false, false, false, false, false, false, false] (by kernel_rfl) rfl rfl ⟨H3d.out.c5, H3d.out.c3, H3d.out.cpx HPL.out HX.out⟩ (fun hHeld => ?_)
  refine with_tabW p4_tab p4_bits (fun HT_ HW_ => ?_)
  have H5d := Aside0.mk (show MV B w0 w3d.drew gm gq n D T ⟨ps, da, pt, cnt, cmd, st⟩ vd vp ve from H3d.out.drew)
  clear H3d
  generalize w3d.drew = w5d at H5d hHeld ⊢
  refine pure_ (i := 0) (N := some 39) (v := ?_) (a' := ?_) (zF 25 1) rfl rfl (any_of HT_.out (by kernel_rfl)) (fun _ _ _ h => h) (Or.inl ⟨by rfl, ?_⟩) ?_ ?_
  rotate_left; (intro w'; go_simp; with_reducible rfl); rotate_left; (simp only [Act.put, zA, zZ, zS, i64_w, i32_w]; rfl)
  refine pure_ (i := 1) (N := some 40) (v := ?_) (a' := ?_) (zF 25 3) rfl rfl (any_of HT_.out (by kernel_rfl)) (fun _ _ _ h => h) (Or.inl ⟨by rfl, ?_⟩) ?_ ?_
  rotate_left; (intro w'; go_simp; with_reducible rfl); rotate_left; (simp only [Act.put, zA, zZ, zS, i64_w, i32_w]; rfl)
  refine pure_ (i := 2) (N := some 41) (v := ?_) (a' := ?_) (zF 25 7) rfl rfl (any_of HT_.out (by kernel_rfl)) (fun _ _ _ h => h) (Or.inl ⟨by rfl, ?_⟩) ?_ ?_
  rotate_left; (intro w'; go_simp; with_reducible rfl); rotate_left; (simp only [Act.put, zA, zZ, zS, i64_w, i32_w]; rfl)
  refine pure_ (i := 4) (N := some 43) (v := ?_) (a' := ?_) (zF 25 23) rfl rfl (any_of HT_.out (by kernel_rfl)) (fun _ _ _ h => h) (Or.inl ⟨by rfl, ?_⟩) ?_ ?_
  rotate_left; (intro w'; go_simp; with_reducible rfl); rotate_left; (simp only [Act.put, zA, zZ, zS, i64_w, i32_w]; rfl)
  refine pure_ (i := 5) (N := some 44) (v := ?_) (a' := ?_) (zF 25 55) rfl rfl (any_of HT_.out (by kernel_rfl)) (fun _ _ _ h => h) (Or.inl ⟨by rfl, ?_⟩) ?_ ?_
  rotate_left; (intro w'; go_simp; with_reducible rfl); rotate_left; (simp only [Act.put, zA, zZ, zS, i64_w, i32_w]; rfl)
  refine pure_ (i := 6) (N := some 45) (v := ?_) (a' := ?_) (zF 25 119) rfl rfl (any_of HT_.out (by kernel_rfl)) (fun _ _ _ h => h) (Or.inl ⟨by rfl, ?_⟩) ?_ ?_
  rotate_left; (intro w'; go_simp; with_reducible rfl); rotate_left; (simp only [Act.put, zA, zZ, zS, i64_w, i32_w]; rfl)
  refine pure_ (i := 8) (N := some 47) (v := ?_) (a' := ?_) (zF 25 375) rfl rfl (any_of HT_.out (by kernel_rfl)) (fun _ _ _ h => h) (Or.inl ⟨by rfl, ?_⟩) ?_ ?_
  rotate_left; (intro w'; go_simp; with_reducible rfl); rotate_left; (simp only [Act.put, zA, zZ, zS, i64_w, i32_w]; rfl)
  refine pure_ (i := 9) (N := some 48) (v := ?_) (a' := ?_) (zF 25 887) rfl rfl (any_of HT_.out (by kernel_rfl)) (fun _ _ _ h => h) (Or.inl ⟨by rfl, ?_⟩) ?_ ?_
  rotate_left; (intro w'; go_simp; with_reducible rfl); rotate_left; (simp only [Act.put, zA, zZ, zS, i64_w, i32_w]; rfl)
  refine pure_ (i := 10) (N := some 49) (v := ?_) (a' := ?_) (zF 25 1911) rfl rfl (any_of HT_.out (by kernel_rfl)) (fun _ _ _ h => h) (Or.inl ⟨by rfl, ?_⟩) ?_ ?_
  rotate_left; (intro w'; go_simp; with_reducible rfl); rotate_left; (simp only [Act.put, zA, zZ, zS, i64_w, i32_w]; rfl)
  refine pure_ (i := 12) (N := some 51) (v := ?_) (a' := ?_) (zF 25 6007) rfl rfl (any_of HT_.out (by kernel_rfl)) (fun _ _ _ h => h) (Or.inl ⟨by rfl, ?_⟩) ?_ ?_
  rotate_left; (intro w'; go_simp; with_reducible rfl); rotate_left; (simp only [Act.put, zA, zZ, zS, i64_w, i32_w]; rfl)
  refine pure_ (i := 13) (N := some 52) (v := ?_) (a' := ?_) (zF 25 14199) rfl rfl (any_of HT_.out (by kernel_rfl)) (fun _ _ _ h => h) (Or.inl ⟨by rfl, ?_⟩) ?_ ?_
  rotate_left; (intro w'; go_simp; with_reducible rfl); rotate_left; (simp only [Act.put, zA, zZ, zS, i64_w, i32_w]; rfl)
  refine pure_ (i := 14) (N := some 53) (v := ?_) (a' := ?_) (zF 25 30583) rfl rfl (any_of HT_.out (by kernel_rfl)) (fun _ _ _ h => h) (Or.inl ⟨by rfl, ?_⟩) ?_ ?_
  rotate_left; (intro w'; go_simp; with_reducible rfl); rotate_left; (simp only [Act.put, zA, zZ, zS, i64_w, i32_w]; rfl)
  refine pure_ (i := 19) (N := some 58) (v := ?_) (a' := ?_) (zF 25 554871) rfl rfl (any_of HT_.out (by kernel_rfl)) (fun _ _ _ h => h) (Or.inl ⟨by rfl, ?_⟩) ?_ ?_
  rotate_left; (intro w'; go_simp; with_reducible rfl); rotate_left; (simp only [Act.put, zA, zZ, zS, i64_w, i32_w]; rfl)
  refine pure_ (i := 20) (N := some 59) (v := ?_) (a' := ?_) (zF 25 1603447) rfl rfl (any_of HT_.out (by kernel_rfl)) (fun _ _ _ h => h) (Or.inl ⟨by rfl, ?_⟩) ?_ ?_
  rotate_left; (intro w'; go_simp; with_reducible rfl); rotate_left; (simp only [Act.put, zA, zZ, zS, i64_w, i32_w]; rfl)
  refine pure_ (i := 21) (N := some 60) (v := ?_) (a' := ?_) (zF 25 3700599) rfl rfl (any_of HT_.out (by kernel_rfl)) (fun _ _ _ h => h) (Or.inl ⟨by rfl, ?_⟩) ?_ ?_
  rotate_left; (intro w'; go_simp; with_reducible rfl); rotate_left; (simp only [Act.put, zA, zZ, zS, i64_w, i32_w]; rfl)
  refine take_ (i := 3) (N := some 42) (v := ?_) (a' := ?_) (zF 25 3700607) rfl rfl (take_ofW HT_.out HW_.out (by kernel_rfl)) (fun _ _ _ h => h) (Or.inl ⟨by rfl, ?_⟩) hHeld ?_ ?_
  rotate_left; (rintro w' ⟨s0, s1, s2⟩; go_simp; with_reducible rfl); rotate_left; (simp only [Act.put, zA, zZ, zS, i64_w, i32_w]; rfl)
  refine take_ (i := 7) (N := some 46) (v := ?_) (a' := ?_) (zF 25 3700735) rfl rfl (take_ofW HT_.out HW_.out (by kernel_rfl)) (fun _ _ _ h => h) (Or.inl ⟨by rfl, ?_⟩) hHeld ?_ ?_
  rotate_left; (rintro w' ⟨s0, s1, s2⟩; go_simp; with_reducible rfl); rotate_left; (simp only [Act.put, zA, zZ, zS, i64_w, i32_w]; rfl)
  refine take_ (i := 11) (N := some 50) (v := ?_) (a' := ?_) (zF 25 3702783) rfl rfl (take_ofW HT_.out HW_.out (by kernel_rfl)) (fun _ _ _ h => h) (Or.inl ⟨by rfl, ?_⟩) hHeld ?_ ?_
  rotate_left; (rintro w' ⟨s0, s1, s2⟩; go_simp; with_reducible rfl); rotate_left; (simp only [Act.put, zA, zZ, zS, i64_w, i32_w]; rfl)
  refine take_ (i := 15) (N := some 54) (v := ?_) (a' := ?_) (zF 25 3735551) rfl rfl (take_ofW HT_.out HW_.out (by kernel_rfl)) (fun _ _ _ h => h) (Or.inl ⟨by rfl, ?_⟩) hHeld ?_ ?_
  rotate_left; (rintro w' ⟨s0, s1, s2⟩; go_simp; with_reducible rfl); rotate_left; (simp only [Act.put, zA, zZ, zS, i64_w, i32_w]; rfl)
  refine pure_ (i := 16) (N := some 55) (v := ?_) (a' := ?_) (zF 25 3801087) rfl rfl (any_of HT_.out (by kernel_rfl)) (fun _ _ _ h => h) (Or.inl ⟨by rfl, ?_⟩) ?_ ?_
  rotate_left; (intro w'; go_simp; with_reducible rfl); rotate_left; (simp only [Act.put, zA, zZ, zS, i64_w, i32_w]; rfl)
  refine take_ (i := 17) (N := some 56) (v := ?_) (a' := ?_) (zF 25 3932159) rfl rfl (take_ofW HT_.out HW_.out (by kernel_rfl)) (fun _ _ _ h => h) (Or.inl ⟨by rfl, ?_⟩) hHeld ?_ ?_
  rotate_left; (rintro w' ⟨s0, s1, s2⟩; go_simp; with_reducible rfl); rotate_left; (simp only [Act.put, zA, zZ, zS, i64_w, i32_w]; rfl)
  refine pure_ (i := 18) (N := some 57) (v := ?_) (a' := ?_) (zF 25 4194303) rfl rfl (any_of HT_.out (by kernel_rfl)) (fun _ _ _ h => h) (Or.inl ⟨by rfl, ?_⟩) ?_ ?_
  rotate_left; (intro w'; go_simp; with_reducible rfl); rotate_left; (simp only [Act.put, zA, zZ, zS, i64_w, i32_w]; rfl)
  refine pure_ (i := 22) (N := some 61) (v := ?_) (a' := ?_) (zF 25 8388607) rfl rfl (any_of HT_.out (by kernel_rfl)) (fun _ _ _ h => h) (Or.inl ⟨by rfl, ?_⟩) ?_ ?_
  rotate_left; (intro w'; go_simp; with_reducible rfl); rotate_left; (simp only [Act.put, zA, zZ, zS, i64_w, i32_w]; rfl)
  refine pure_ (i := 23) (N := some 62) (v := ?_) (a' := ?_) (zF 25 16777215) rfl rfl (any_of HT_.out (by kernel_rfl)) (fun _ _ _ h => h) (Or.inl ⟨by rfl, ?_⟩) ?_ ?_
  rotate_left; (intro w'; go_simp; with_reducible rfl); rotate_left; (simp only [Act.put, zA, zZ, zS, i64_w, i32_w]; rfl)
  refine last_ (i := 24) (N := none) (zF 25 33554431) rfl rfl (one_of HT_.out (by kernel_rfl)) (by decide) (fun K hK => ?_)
  have q5d : w5d.cell? ⟨gq, cnt, none⟩ = some (.int .i64 x) := H5d.out.cpx HPL.out HX.out
  have qf5d := H5d.out.freep cnt
  refine skip_ (w1 := ?_) (by rfl) rfl ?_ ?_
  rotate_left
  · go_simp
    with_reducible rfl
  refine hK.out _ _ ?_
  clear hK K
  clear q5d qf5d
  refine done_ (done_of HT_.out (by kernel_rfl)) ?_
  clear hHeld
  have H5 := Aside0.mk (show MV B w0 (w5d.setCell ⟨gq, cnt, none⟩ (.int .i64 (wrap64 ((wrap64 (x * 10)) + wrap64 (IntKind.u8.wrap (b - 48)))))) gm gq n D T ⟨ps.set cnt (wrap64 ((wrap64 (x * 10)) + wrap64 (IntKind.u8.wrap (b - 48)))), da, pt, cnt, cmd, st⟩ vd vp ve from H5d.out.set_p cnt (wrap64 ((wrap64 (x * 10)) + wrap64 (IntKind.u8.wrap (b - 48)))))
  clear H5d
  generalize w5d.setCell ⟨gq, cnt, none⟩ (.int .i64 (wrap64 ((wrap64 (x * 10)) + wrap64 (IntKind.u8.wrap (b - 48))))) = w5 at H5 ⊢
  go_wp2
  refine bodyPost_ret (results_none rfl _ _ _) rfl ?_
  refine ⟨rfl, ?_⟩
  have h_ := H5.out
  rw [HX.out] at h_
  exact h_
set_option maxHeartbeats 8000000 in
set_option maxRecDepth 100000 in
theorem pp_colon_more (B : Nat) (w0 w : World) (gm gq n T : Nat) (D : Int) (s : SM) (vd vp : Value) (ve : VE) (h : MV B w0 w gm gq n D T s vd vp ve) (hpl : s.cnt < n) (hmo : s.cnt + 1 < n) (hbig : n ≤ 1000000) :
    Calls Tryd.prog 54 #[.pointer (some ⟨gm, 0, none⟩), .int .u8 58] w fun e w' => e = .returned (.tuple #[]) ∧ MV B w0 w' gm gq n D T (sparam n s 58) vd vp ve := by
  obtain ⟨ps, da, pt, cnt, cmd, st⟩ := s
  replace hpl : cnt < n := hpl
  replace hmo : cnt + 1 < n := hmo
  have hpn : ps.length = n := h.hn
  have hsp : sparam n ⟨ps, da, pt, cnt, cmd, st⟩ 58 = ⟨(ps.set cnt (Go.bits .or .i64 (ps.getD cnt 0) (-2147483648))).set (cnt + 1) 2147483647, da, pt, cnt + 1, cmd, st⟩ := by
    unfold sparam
    rw [if_neg (show ¬ n ≤ cnt by omega), if_neg (by decide), if_pos rfl]
    try rfl
  rw [hsp]
  clear hsp hpn
  obtain ⟨w1, hw1⟩ : ∃ w1, w1 = w := ⟨_, rfl⟩
  rw [← hw1]
  have H1 := Aside0.mk (show MV B w0 w1 gm gq n D T ⟨ps, da, pt, cnt, cmd, st⟩ vd vp ve by rw [hw1]; exact h)
  clear hw1 h
  obtain ⟨x, hx⟩ : ∃ x, x = ps.getD cnt 0 := ⟨_, rfl⟩
  have HX := Aside0.mk hx
  clear hx
  have HPL := Aside0.mk hpl
  have tn : decide ((n : Int) ≤ (cnt : Int)) = false := decide_eq_false (by omega)
  have p0 : (0 : Int) ≤ (cnt : Int) := by omega
  have p1 : (cnt : Int) < (n : Int) := by omega
  obtain ⟨k2, hk2⟩ : ∃ k2, k2 = cnt + 1 := ⟨_, rfl⟩
  have HK2 := Aside0.mk hk2
  have hwr : wrap64 ((cnt : Int) + 1) = (k2 : Int) := by have := hbig; unfold wrap64; omega
  have HM := Aside0.mk (show k2 < n by omega)
  have tm : decide ((k2 : Int) < (n : Int)) = true := decide_eq_true (by omega)
  have r0 : (0 : Int) ≤ (k2 : Int) := by omega
  have r1 : (k2 : Int) < (n : Int) := by omega
  clear hpl hmo hbig hk2
  go_enter Tryd.func54, Tryd.ntmps54
  go_wp2_with fail
  refine start_ (n := 9) (S := (fun w' => w'.cell? ⟨gm, 0, none⟩ = some (.int .i64 (n : Int)) ∧ w'.cell? ⟨gm, 3, none⟩ = some (.int .i64 (cnt : Int)))) (ds := []) #[false, false, false, false, false, false, false, false, false] (by kernel_rfl) rfl rfl ⟨H1.out.c0, H1.out.c3⟩ (fun hHeld => ?_)
  refine with_tabW p0_tab p0_bits (fun HT_ HW_ => ?_)
  have H2d := Aside0.mk (show MV B w0 w1.drew gm gq n D T ⟨ps, da, pt, cnt, cmd, st⟩ vd vp ve from H1.out.drew)
  clear H1
  generalize w1.drew = w2d at H2d hHeld ⊢
  refine pure_ (i := 0) (N := some 4) (v := ?_) (a' := ?_) (zF 9 1) rfl rfl (any_of HT_.out (by kernel_rfl)) (fun _ _ _ h => h) (Or.inl ⟨by rfl, ?_⟩) ?_ ?_
  rotate_left; (intro w'; go_simp; with_reducible rfl); rotate_left; (simp only [Act.put, zA, zZ, zS, i64_w, i32_w]; rfl)
  refine pure_ (i := 1) (N := some 5) (v := ?_) (a' := ?_) (zF 9 3) rfl rfl (any_of HT_.out (by kernel_rfl)) (fun _ _ _ h => h) (Or.inl ⟨by rfl, ?_⟩) ?_ ?_
  rotate_left; (intro w'; go_simp; with_reducible rfl); rotate_left; (simp only [Act.put, zA, zZ, zS, i64_w, i32_w]; rfl)
  refine pure_ (i := 2) (N := some 6) (v := ?_) (a' := ?_) (zF 9 7) rfl rfl (any_of HT_.out (by kernel_rfl)) (fun _ _ _ h => h) (Or.inl ⟨by rfl, ?_⟩) ?_ ?_
  rotate_left; (intro w'; go_simp; with_reducible rfl); rotate_left; (simp only [Act.put, zA, zZ, zS, i64_w, i32_w]; rfl)
  refine pure_ (i := 4) (N := some 8) (v := ?_) (a' := ?_) (zF 9 23) rfl rfl (any_of HT_.out (by kernel_rfl)) (fun _ _ _ h => h) (Or.inl ⟨by rfl, ?_⟩) ?_ ?_
  rotate_left; (intro w'; go_simp; with_reducible rfl); rotate_left; (simp only [Act.put, zA, zZ, zS, i64_w, i32_w]; rfl)
  refine pure_ (i := 5) (N := some 9) (v := ?_) (a' := ?_) (zF 9 55) rfl rfl (any_of HT_.out (by kernel_rfl)) (fun _ _ _ h => h) (Or.inl ⟨by rfl, ?_⟩) ?_ ?_
  rotate_left; (intro w'; go_simp; with_reducible rfl); rotate_left; (simp only [Act.put, zA, zZ, zS, i64_w, i32_w]; rfl)
  refine pure_ (i := 6) (N := some 10) (v := ?_) (a' := ?_) (zF 9 119) rfl rfl (any_of HT_.out (by kernel_rfl)) (fun _ _ _ h => h) (Or.inl ⟨by rfl, ?_⟩) ?_ ?_
  rotate_left; (intro w'; go_simp; with_reducible rfl); rotate_left; (simp only [Act.put, zA, zZ, zS, i64_w, i32_w]; rfl)
  refine take_ (i := 3) (N := some 7) (v := ?_) (a' := ?_) (zF 9 127) rfl rfl (take_ofW HT_.out HW_.out (by kernel_rfl)) (fun _ _ _ h => h) (Or.inl ⟨by rfl, ?_⟩) hHeld ?_ ?_
  rotate_left; (rintro w' ⟨s0, s1⟩; go_simp; with_reducible rfl); rotate_left; (simp only [Act.put, zA, zZ, zS, i64_w, i32_w]; rfl)
  refine take_ (i := 7) (N := some 11) (v := ?_) (a' := ?_) (zF 9 255) rfl rfl (take_ofW HT_.out HW_.out (by kernel_rfl)) (fun _ _ _ h => h) (Or.inl ⟨by rfl, ?_⟩) hHeld ?_ ?_
  rotate_left; (rintro w' ⟨s0, s1⟩; go_simp; with_reducible rfl); rotate_left; (simp only [Act.put, zA, zZ, zS, i64_w, i32_w]; rfl)
  refine pure_ (i := 8) (N := some 12) (v := ?_) (a' := ?_) (zF 9 511) rfl rfl (any_of HT_.out (by kernel_rfl)) (fun _ _ _ h => h) (Or.inl ⟨by rfl, ?_⟩) ?_ ?_
  rotate_left; (intro w'; go_simp; with_reducible rfl); rotate_left; (simp only [Act.put, zA, zZ, zS, i64_w, i32_w]; rfl)
  refine done_ (done_of HT_.out (by kernel_rfl)) ?_
  clear hHeld
  go_wp2_with fail
  refine start_ (n := 21) (S := (fun w' => w'.cell? ⟨gm, 5, none⟩ = some (.slice (some ⟨gq, 0, none⟩) n n) ∧ w'.cell? ⟨gm, 3, none⟩ = some (.int .i64 (cnt : Int)) ∧ w'.cell? ⟨gq, cnt, none⟩ = some (.int .i64 x))) (ds := [20]) #[false, false, false, false, false, false, false, false, false, false, false, false, false, false, false, false, false, false, false, false, false] (by kernel_rfl) rfl rfl ⟨H2d.out.c5, H2d.out.c3, H2d.out.cpx HPL.out HX.out⟩ (fun hHeld => ?_)
  refine with_tabW p6_tab p6_bits (fun HT_ HW_ => ?_)
  have H3d := Aside0.mk (show MV B w0 w2d.drew gm gq n D T ⟨ps, da, pt, cnt, cmd, st⟩ vd vp ve from H2d.out.drew)
  clear H2d
  generalize w2d.drew = w3d at H3d hHeld ⊢
  refine pure_ (i := 0) (N := some 65) (v := ?_) (a' := ?_) (zF 21 1) rfl rfl (any_of HT_.out (by kernel_rfl)) (fun _ _ _ h => h) (Or.inl ⟨by rfl, ?_⟩) ?_ ?_
  rotate_left; (intro w'; go_simp; with_reducible rfl); rotate_left; (simp only [Act.put, zA, zZ, zS, i64_w, i32_w]; rfl)
  refine pure_ (i := 1) (N := some 66) (v := ?_) (a' := ?_) (zF 21 3) rfl rfl (any_of HT_.out (by kernel_rfl)) (fun _ _ _ h => h) (Or.inl ⟨by rfl, ?_⟩) ?_ ?_
  rotate_left; (intro w'; go_simp; with_reducible rfl); rotate_left; (simp only [Act.put, zA, zZ, zS, i64_w, i32_w]; rfl)
  refine pure_ (i := 2) (N := some 67) (v := ?_) (a' := ?_) (zF 21 7) rfl rfl (any_of HT_.out (by kernel_rfl)) (fun _ _ _ h => h) (Or.inl ⟨by rfl, ?_⟩) ?_ ?_
  rotate_left; (intro w'; go_simp; with_reducible rfl); rotate_left; (simp only [Act.put, zA, zZ, zS, i64_w, i32_w]; rfl)
  refine pure_ (i := 4) (N := some 69) (v := ?_) (a' := ?_) (zF 21 23) rfl rfl (any_of HT_.out (by kernel_rfl)) (fun _ _ _ h => h) (Or.inl ⟨by rfl, ?_⟩) ?_ ?_
  rotate_left; (intro w'; go_simp; with_reducible rfl); rotate_left; (simp only [Act.put, zA, zZ, zS, i64_w, i32_w]; rfl)
  refine pure_ (i := 5) (N := some 70) (v := ?_) (a' := ?_) (zF 21 55) rfl rfl (any_of HT_.out (by kernel_rfl)) (fun _ _ _ h => h) (Or.inl ⟨by rfl, ?_⟩) ?_ ?_
  rotate_left; (intro w'; go_simp; with_reducible rfl); rotate_left; (simp only [Act.put, zA, zZ, zS, i64_w, i32_w]; rfl)
  refine pure_ (i := 6) (N := some 71) (v := ?_) (a' := ?_) (zF 21 119) rfl rfl (any_of HT_.out (by kernel_rfl)) (fun _ _ _ h => h) (Or.inl ⟨by rfl, ?_⟩) ?_ ?_
  rotate_left; (intro w'; go_simp; with_reducible rfl); rotate_left; (simp only [Act.put, zA, zZ, zS, i64_w, i32_w]; rfl)
  refine pure_ (i := 8) (N := some 73) (v := ?_) (a' := ?_) (zF 21 375) rfl rfl (any_of HT_.out (by kernel_rfl)) (fun _ _ _ h => h) (Or.inl ⟨by rfl, ?_⟩) ?_ ?_
  rotate_left; (intro w'; go_simp; with_reducible rfl); rotate_left; (simp only [Act.put, zA, zZ, zS, i64_w, i32_w]; rfl)
  refine pure_ (i := 9) (N := some 74) (v := ?_) (a' := ?_) (zF 21 887) rfl rfl (any_of HT_.out (by kernel_rfl)) (fun _ _ _ h => h) (Or.inl ⟨by rfl, ?_⟩) ?_ ?_
  rotate_left; (intro w'; go_simp; with_reducible rfl); rotate_left; (simp only [Act.put, zA, zZ, zS, i64_w, i32_w]; rfl)
  refine pure_ (i := 10) (N := some 75) (v := ?_) (a' := ?_) (zF 21 1911) rfl rfl (any_of HT_.out (by kernel_rfl)) (fun _ _ _ h => h) (Or.inl ⟨by rfl, ?_⟩) ?_ ?_
  rotate_left; (intro w'; go_simp; with_reducible rfl); rotate_left; (simp only [Act.put, zA, zZ, zS, i64_w, i32_w]; rfl)
  refine pure_ (i := 12) (N := some 77) (v := ?_) (a' := ?_) (zF 21 6007) rfl rfl (any_of HT_.out (by kernel_rfl)) (fun _ _ _ h => h) (Or.inl ⟨by rfl, ?_⟩) ?_ ?_
  rotate_left; (intro w'; go_simp; with_reducible rfl); rotate_left; (simp only [Act.put, zA, zZ, zS, i64_w, i32_w]; rfl)
  refine pure_ (i := 13) (N := some 78) (v := ?_) (a' := ?_) (zF 21 14199) rfl rfl (any_of HT_.out (by kernel_rfl)) (fun _ _ _ h => h) (Or.inl ⟨by rfl, ?_⟩) ?_ ?_
  rotate_left; (intro w'; go_simp; with_reducible rfl); rotate_left; (simp only [Act.put, zA, zZ, zS, i64_w, i32_w]; rfl)
  refine pure_ (i := 14) (N := some 79) (v := ?_) (a' := ?_) (zF 21 30583) rfl rfl (any_of HT_.out (by kernel_rfl)) (fun _ _ _ h => h) (Or.inl ⟨by rfl, ?_⟩) ?_ ?_
  rotate_left; (intro w'; go_simp; with_reducible rfl); rotate_left; (simp only [Act.put, zA, zZ, zS, i64_w, i32_w]; rfl)
  refine take_ (i := 3) (N := some 68) (v := ?_) (a' := ?_) (zF 21 30591) rfl rfl (take_ofW HT_.out HW_.out (by kernel_rfl)) (fun _ _ _ h => h) (Or.inl ⟨by rfl, ?_⟩) hHeld ?_ ?_
  rotate_left; (rintro w' ⟨s0, s1, s2⟩; go_simp; with_reducible rfl); rotate_left; (simp only [Act.put, zA, zZ, zS, i64_w, i32_w]; rfl)
  refine take_ (i := 7) (N := some 72) (v := ?_) (a' := ?_) (zF 21 30719) rfl rfl (take_ofW HT_.out HW_.out (by kernel_rfl)) (fun _ _ _ h => h) (Or.inl ⟨by rfl, ?_⟩) hHeld ?_ ?_
  rotate_left; (rintro w' ⟨s0, s1, s2⟩; go_simp; with_reducible rfl); rotate_left; (simp only [Act.put, zA, zZ, zS, i64_w, i32_w]; rfl)
  refine take_ (i := 11) (N := some 76) (v := ?_) (a' := ?_) (zF 21 32767) rfl rfl (take_ofW HT_.out HW_.out (by kernel_rfl)) (fun _ _ _ h => h) (Or.inl ⟨by rfl, ?_⟩) hHeld ?_ ?_
  rotate_left; (rintro w' ⟨s0, s1, s2⟩; go_simp; with_reducible rfl); rotate_left; (simp only [Act.put, zA, zZ, zS, i64_w, i32_w]; rfl)
  refine take_ (i := 15) (N := some 80) (v := ?_) (a' := ?_) (zF 21 65535) rfl rfl (take_ofW HT_.out HW_.out (by kernel_rfl)) (fun _ _ _ h => h) (Or.inl ⟨by rfl, ?_⟩) hHeld ?_ ?_
  rotate_left; (rintro w' ⟨s0, s1, s2⟩; go_simp; with_reducible rfl); rotate_left; (simp only [Act.put, zA, zZ, zS, i64_w, i32_w]; rfl)
  refine pure_ (i := 16) (N := some 81) (v := ?_) (a' := ?_) (zF 21 131071) rfl rfl (any_of HT_.out (by kernel_rfl)) (fun _ _ _ h => h) (Or.inl ⟨by rfl, ?_⟩) ?_ ?_
  rotate_left; (intro w'; go_simp; with_reducible rfl); rotate_left; (simp only [Act.put, zA, zZ, zS, i64_w, i32_w]; rfl)
  refine take_ (i := 17) (N := some 82) (v := ?_) (a' := ?_) (zF 21 262143) rfl rfl (take_ofW HT_.out HW_.out (by kernel_rfl)) (fun _ _ _ h => h) (Or.inl ⟨by rfl, ?_⟩) hHeld ?_ ?_
  rotate_left; (rintro w' ⟨s0, s1, s2⟩; go_simp; with_reducible rfl); rotate_left; (simp only [Act.put, zA, zZ, zS, i64_w, i32_w]; rfl)
  refine pure_ (i := 18) (N := some 83) (v := ?_) (a' := ?_) (zF 21 524287) rfl rfl (any_of HT_.out (by kernel_rfl)) (fun _ _ _ h => h) (Or.inl ⟨by rfl, ?_⟩) ?_ ?_
  rotate_left; (intro w'; go_simp; with_reducible rfl); rotate_left; (simp only [Act.put, zA, zZ, zS, i64_w, i32_w]; rfl)
  refine pure_ (i := 19) (N := some 84) (v := ?_) (a' := ?_) (zF 21 1048575) rfl rfl (any_of HT_.out (by kernel_rfl)) (fun _ _ _ h => h) (Or.inl ⟨by rfl, ?_⟩) ?_ ?_
  rotate_left; (intro w'; go_simp; with_reducible rfl); rotate_left; (simp only [Act.put, zA, zZ, zS, i64_w, i32_w]; rfl)
  refine last_ (i := 20) (N := none) (zF 21 2097151) rfl rfl (one_of HT_.out (by kernel_rfl)) (by decide) (fun K hK => ?_)
  have q3d : w3d.cell? ⟨gq, cnt, none⟩ = some (.int .i64 x) := H3d.out.cpx HPL.out HX.out
  have qf3d := H3d.out.freep cnt
  refine skip_ (w1 := ?_) (by rfl) rfl ?_ ?_
  rotate_left
  · go_simp
    with_reducible rfl
  refine hK.out _ _ ?_
  clear hK K
  clear q3d qf3d
  refine done_ (done_of HT_.out (by kernel_rfl)) ?_
  clear hHeld
  have H3 := Aside0.mk (show MV B w0 (w3d.setCell ⟨gq, cnt, none⟩ (.int .i64 (Go.bits .or .i64 x (-2147483648)))) gm gq n D T ⟨ps.set cnt (Go.bits .or .i64 x (-2147483648)), da, pt, cnt, cmd, st⟩ vd vp ve from H3d.out.set_p cnt (Go.bits .or .i64 x (-2147483648)))
  clear H3d
  generalize w3d.setCell ⟨gq, cnt, none⟩ (.int .i64 (Go.bits .or .i64 x (-2147483648))) = w3 at H3 ⊢
  have c3 := H3.out.c3
  have f3 := H3.out.free 3
  have H9 := Aside0.mk (H3.out.set_cnt k2 (k2 : Int) rfl)
  go_wp2_with fail
  clear c3 f3 H3
  generalize w3.setCell ⟨gm, 3, none⟩ (.int .i64 (k2 : Int)) = w9 at H9 ⊢
  replace H9 : Aside0 (MV B w0 w9 gm gq n D T ⟨ps.set cnt (Go.bits .or .i64 x (-2147483648)), da, pt, k2, cmd, st⟩ vd vp ve) := ⟨H9.out⟩
  refine start_ (n := 9) (S := (fun w' => w'.cell? ⟨gm, 3, none⟩ = some (.int .i64 (k2 : Int)) ∧ w'.cell? ⟨gm, 0, none⟩ = some (.int .i64 (n : Int)))) (ds := []) #[false, false, false, false, false, false, false, false, false] (by kernel_rfl) rfl rfl ⟨H9.out.c3, H9.out.c0⟩ (fun hHeld => ?_)
  refine with_tabW p8_tab p8_bits (fun HT_ HW_ => ?_)
  have H10d := Aside0.mk (show MV B w0 w9.drew gm gq n D T ⟨ps.set cnt (Go.bits .or .i64 x (-2147483648)), da, pt, k2, cmd, st⟩ vd vp ve from H9.out.drew)
  clear H9
  generalize w9.drew = w10d at H10d hHeld ⊢
  refine pure_ (i := 0) (N := some 92) (v := ?_) (a' := ?_) (zF 9 1) rfl rfl (any_of HT_.out (by kernel_rfl)) (fun _ _ _ h => h) (Or.inl ⟨by rfl, ?_⟩) ?_ ?_
  rotate_left; (intro w'; go_simp; with_reducible rfl); rotate_left; (simp only [Act.put, zA, zZ, zS, i64_w, i32_w]; rfl)
  refine pure_ (i := 1) (N := some 93) (v := ?_) (a' := ?_) (zF 9 3) rfl rfl (any_of HT_.out (by kernel_rfl)) (fun _ _ _ h => h) (Or.inl ⟨by rfl, ?_⟩) ?_ ?_
  rotate_left; (intro w'; go_simp; with_reducible rfl); rotate_left; (simp only [Act.put, zA, zZ, zS, i64_w, i32_w]; rfl)
  refine pure_ (i := 2) (N := some 94) (v := ?_) (a' := ?_) (zF 9 7) rfl rfl (any_of HT_.out (by kernel_rfl)) (fun _ _ _ h => h) (Or.inl ⟨by rfl, ?_⟩) ?_ ?_
  rotate_left; (intro w'; go_simp; with_reducible rfl); rotate_left; (simp only [Act.put, zA, zZ, zS, i64_w, i32_w]; rfl)
  refine pure_ (i := 4) (N := some 96) (v := ?_) (a' := ?_) (zF 9 23) rfl rfl (any_of HT_.out (by kernel_rfl)) (fun _ _ _ h => h) (Or.inl ⟨by rfl, ?_⟩) ?_ ?_
  rotate_left; (intro w'; go_simp; with_reducible rfl); rotate_left; (simp only [Act.put, zA, zZ, zS, i64_w, i32_w]; rfl)
  refine pure_ (i := 5) (N := some 97) (v := ?_) (a' := ?_) (zF 9 55) rfl rfl (any_of HT_.out (by kernel_rfl)) (fun _ _ _ h => h) (Or.inl ⟨by rfl, ?_⟩) ?_ ?_
  rotate_left; (intro w'; go_simp; with_reducible rfl); rotate_left; (simp only [Act.put, zA, zZ, zS, i64_w, i32_w]; rfl)
  refine pure_ (i := 6) (N := some 98) (v := ?_) (a' := ?_) (zF 9 119) rfl rfl (any_of HT_.out (by kernel_rfl)) (fun _ _ _ h => h) (Or.inl ⟨by rfl, ?_⟩) ?_ ?_
  rotate_left; (intro w'; go_simp; with_reducible rfl); rotate_left; (simp only [Act.put, zA, zZ, zS, i64_w, i32_w]; rfl)
  refine take_ (i := 3) (N := some 95) (v := ?_) (a' := ?_) (zF 9 127) rfl rfl (take_ofW HT_.out HW_.out (by kernel_rfl)) (fun _ _ _ h => h) (Or.inl ⟨by rfl, ?_⟩) hHeld ?_ ?_
  rotate_left; (rintro w' ⟨s0, s1⟩; go_simp; with_reducible rfl); rotate_left; (simp only [Act.put, zA, zZ, zS, i64_w, i32_w]; rfl)
  refine take_ (i := 7) (N := some 99) (v := ?_) (a' := ?_) (zF 9 255) rfl rfl (take_ofW HT_.out HW_.out (by kernel_rfl)) (fun _ _ _ h => h) (Or.inl ⟨by rfl, ?_⟩) hHeld ?_ ?_
  rotate_left; (rintro w' ⟨s0, s1⟩; go_simp; with_reducible rfl); rotate_left; (simp only [Act.put, zA, zZ, zS, i64_w, i32_w]; rfl)
  refine pure_ (i := 8) (N := some 100) (v := ?_) (a' := ?_) (zF 9 511) rfl rfl (any_of HT_.out (by kernel_rfl)) (fun _ _ _ h => h) (Or.inl ⟨by rfl, ?_⟩) ?_ ?_
  rotate_left; (intro w'; go_simp; with_reducible rfl); rotate_left; (simp only [Act.put, zA, zZ, zS, i64_w, i32_w]; rfl)
  refine done_ (done_of HT_.out (by kernel_rfl)) ?_
  clear hHeld
  go_wp2_with fail
  refine start_ (n := 10) (S := (fun w' => w'.cell? ⟨gm, 5, none⟩ = some (.slice (some ⟨gq, 0, none⟩) n n) ∧ w'.cell? ⟨gm, 3, none⟩ = some (.int .i64 (k2 : Int)))) (ds := [9]) #[false, false, false, false, false, false, false, false, false, false] (by kernel_rfl) rfl rfl ⟨H10d.out.c5, H10d.out.c3⟩ (fun hHeld => ?_)
  refine with_tabW p9_tab p9_bits (fun HT_ HW_ => ?_)
  have H11d := Aside0.mk (show MV B w0 w10d.drew gm gq n D T ⟨ps.set cnt (Go.bits .or .i64 x (-2147483648)), da, pt, k2, cmd, st⟩ vd vp ve from H10d.out.drew)
  clear H10d
  generalize w10d.drew = w11d at H11d hHeld ⊢
  refine pure_ (i := 0) (N := some 101) (v := ?_) (a' := ?_) (zF 10 1) rfl rfl (any_of HT_.out (by kernel_rfl)) (fun _ _ _ h => h) (Or.inl ⟨by rfl, ?_⟩) ?_ ?_
  rotate_left; (intro w'; go_simp; with_reducible rfl); rotate_left; (simp only [Act.put, zA, zZ, zS, i64_w, i32_w]; rfl)
  refine pure_ (i := 1) (N := some 102) (v := ?_) (a' := ?_) (zF 10 3) rfl rfl (any_of HT_.out (by kernel_rfl)) (fun _ _ _ h => h) (Or.inl ⟨by rfl, ?_⟩) ?_ ?_
  rotate_left; (intro w'; go_simp; with_reducible rfl); rotate_left; (simp only [Act.put, zA, zZ, zS, i64_w, i32_w]; rfl)
  refine pure_ (i := 2) (N := some 103) (v := ?_) (a' := ?_) (zF 10 7) rfl rfl (any_of HT_.out (by kernel_rfl)) (fun _ _ _ h => h) (Or.inl ⟨by rfl, ?_⟩) ?_ ?_
  rotate_left; (intro w'; go_simp; with_reducible rfl); rotate_left; (simp only [Act.put, zA, zZ, zS, i64_w, i32_w]; rfl)
  refine pure_ (i := 4) (N := some 105) (v := ?_) (a' := ?_) (zF 10 23) rfl rfl (any_of HT_.out (by kernel_rfl)) (fun _ _ _ h => h) (Or.inl ⟨by rfl, ?_⟩) ?_ ?_
  rotate_left; (intro w'; go_simp; with_reducible rfl); rotate_left; (simp only [Act.put, zA, zZ, zS, i64_w, i32_w]; rfl)
  refine pure_ (i := 5) (N := some 106) (v := ?_) (a' := ?_) (zF 10 55) rfl rfl (any_of HT_.out (by kernel_rfl)) (fun _ _ _ h => h) (Or.inl ⟨by rfl, ?_⟩) ?_ ?_
  rotate_left; (intro w'; go_simp; with_reducible rfl); rotate_left; (simp only [Act.put, zA, zZ, zS, i64_w, i32_w]; rfl)
  refine pure_ (i := 6) (N := some 107) (v := ?_) (a' := ?_) (zF 10 119) rfl rfl (any_of HT_.out (by kernel_rfl)) (fun _ _ _ h => h) (Or.inl ⟨by rfl, ?_⟩) ?_ ?_
  rotate_left; (intro w'; go_simp; with_reducible rfl); rotate_left; (simp only [Act.put, zA, zZ, zS, i64_w, i32_w]; rfl)
  refine take_ (i := 3) (N := some 104) (v := ?_) (a' := ?_) (zF 10 127) rfl rfl (take_ofW HT_.out HW_.out (by kernel_rfl)) (fun _ _ _ h => h) (Or.inl ⟨by rfl, ?_⟩) hHeld ?_ ?_
  rotate_left; (rintro w' ⟨s0, s1⟩; go_simp; with_reducible rfl); rotate_left; (simp only [Act.put, zA, zZ, zS, i64_w, i32_w]; rfl)
  refine take_ (i := 7) (N := some 108) (v := ?_) (a' := ?_) (zF 10 255) rfl rfl (take_ofW HT_.out HW_.out (by kernel_rfl)) (fun _ _ _ h => h) (Or.inl ⟨by rfl, ?_⟩) hHeld ?_ ?_
  rotate_left; (rintro w' ⟨s0, s1⟩; go_simp; with_reducible rfl); rotate_left; (simp only [Act.put, zA, zZ, zS, i64_w, i32_w]; rfl)
  refine pure_ (i := 8) (N := some 109) (v := ?_) (a' := ?_) (zF 10 511) rfl rfl (any_of HT_.out (by kernel_rfl)) (fun _ _ _ h => h) (Or.inl ⟨by rfl, ?_⟩) ?_ ?_
  rotate_left; (intro w'; go_simp; with_reducible rfl); rotate_left; (simp only [Act.put, zA, zZ, zS, i64_w, i32_w]; rfl)
  refine last_ (i := 9) (N := none) (zF 10 1023) rfl rfl (one_of HT_.out (by kernel_rfl)) (by decide) (fun K hK => ?_)
  have q11d : w11d.cell? ⟨gq, k2, none⟩ = some (.int .i64 ((ps.set cnt (Go.bits .or .i64 x (-2147483648))).getD k2 0)) := H11d.out.cpx HM.out rfl
  have qf11d := H11d.out.freep k2
  refine skip_ (w1 := ?_) (by rfl) rfl ?_ ?_
  rotate_left
  · go_simp
    with_reducible rfl
  refine hK.out _ _ ?_
  clear hK K
  clear q11d qf11d
  refine done_ (done_of HT_.out (by kernel_rfl)) ?_
  clear hHeld
  have H11 := Aside0.mk (show MV B w0 (w11d.setCell ⟨gq, k2, none⟩ (.int .i64 2147483647)) gm gq n D T ⟨(ps.set cnt (Go.bits .or .i64 x (-2147483648))).set k2 2147483647, da, pt, k2, cmd, st⟩ vd vp ve from H11d.out.set_p k2 2147483647)
  clear H11d
  generalize w11d.setCell ⟨gq, k2, none⟩ (.int .i64 2147483647) = w11 at H11 ⊢
  go_wp2
  go_end0
  refine ⟨rfl, ?_⟩
  have h_ := H11.out
  rw [HK2.out] at h_
  rw [HX.out] at h_
  exact h_
set_option maxHeartbeats 8000000 in
set_option maxRecDepth 100000 in
theorem pp_colon_last (B : Nat) (w0 w : World) (gm gq n T : Nat) (D : Int) (s : SM) (vd vp : Value) (ve : VE) (h : MV B w0 w gm gq n D T s vd vp ve) (hpl : s.cnt < n) (hmo : n ≤ s.cnt + 1) (hbig : n ≤ 1000000) :
    Calls Tryd.prog 54 #[.pointer (some ⟨gm, 0, none⟩), .int .u8 58] w fun e w' => e = .returned (.tuple #[]) ∧ MV B w0 w' gm gq n D T (sparam n s 58) vd vp ve := by
  obtain ⟨ps, da, pt, cnt, cmd, st⟩ := s
  replace hpl : cnt < n := hpl
  replace hmo : n ≤ cnt + 1 := hmo
  have hpn : ps.length = n := h.hn
  have hsp : sparam n ⟨ps, da, pt, cnt, cmd, st⟩ 58 = ⟨(ps.set cnt (Go.bits .or .i64 (ps.getD cnt 0) (-2147483648))), da, pt, cnt + 1, cmd, st⟩ := by
    unfold sparam
    rw [if_neg (show ¬ n ≤ cnt by omega), if_neg (by decide), if_pos rfl]
    show (⟨(ps.set cnt (Go.bits .or .i64 (ps.getD cnt 0) (-2147483648))).set (cnt + 1) 2147483647, da, pt, cnt + 1, cmd, st⟩ : SM) = _
    rw [List.set_eq_of_length_le (by rw [List.length_set]; omega)]
  rw [hsp]
  clear hsp hpn
  obtain ⟨w1, hw1⟩ : ∃ w1, w1 = w := ⟨_, rfl⟩
  rw [← hw1]
  have H1 := Aside0.mk (show MV B w0 w1 gm gq n D T ⟨ps, da, pt, cnt, cmd, st⟩ vd vp ve by rw [hw1]; exact h)
  clear hw1 h
  obtain ⟨x, hx⟩ : ∃ x, x = ps.getD cnt 0 := ⟨_, rfl⟩
  have HX := Aside0.mk hx
  clear hx
  have HPL := Aside0.mk hpl
  have tn : decide ((n : Int) ≤ (cnt : Int)) = false := decide_eq_false (by omega)
  have p0 : (0 : Int) ≤ (cnt : Int) := by omega
  have p1 : (cnt : Int) < (n : Int) := by omega
  obtain ⟨k2, hk2⟩ : ∃ k2, k2 = cnt + 1 := ⟨_, rfl⟩
  have HK2 := Aside0.mk hk2
  have hwr : wrap64 ((cnt : Int) + 1) = (k2 : Int) := by have := hbig; unfold wrap64; omega
  have tm : decide ((k2 : Int) < (n : Int)) = false := decide_eq_false (by omega)
  have tmn : ¬ k2 < n := by omega
  clear hpl hmo hbig hk2
  go_enter Tryd.func54, Tryd.ntmps54
  go_wp2_with fail
  refine start_ (n := 9) (S := (fun w' => w'.cell? ⟨gm, 0, none⟩ = some (.int .i64 (n : Int)) ∧ w'.cell? ⟨gm, 3, none⟩ = some (.int .i64 (cnt : Int)))) (ds := []) #[false, false, false, false, false, false, false, false, false] (by kernel_rfl) rfl rfl ⟨H1.out.c0, H1.out.c3⟩ (fun hHeld => ?_)
  refine with_tabW p0_tab p0_bits (fun HT_ HW_ => ?_)
  have H2d := Aside0.mk (show MV B w0 w1.drew gm gq n D T ⟨ps, da, pt, cnt, cmd, st⟩ vd vp ve from H1.out.drew)
  clear H1
  generalize w1.drew = w2d at H2d hHeld ⊢
  refine pure_ (i := 0) (N := some 4) (v := ?_) (a' := ?_) (zF 9 1) rfl rfl (any_of HT_.out (by kernel_rfl)) (fun _ _ _ h => h) (Or.inl ⟨by rfl, ?_⟩) ?_ ?_
  rotate_left; (intro w'; go_simp; with_reducible rfl); rotate_left; (simp only [Act.put, zA, zZ, zS, i64_w, i32_w]; rfl)
  refine pure_ (i := 1) (N := some 5) (v := ?_) (a' := ?_) (zF 9 3) rfl rfl (any_of HT_.out (by kernel_rfl)) (fun _ _ _ h => h) (Or.inl ⟨by rfl, ?_⟩) ?_ ?_
  rotate_left; (intro w'; go_simp; with_reducible rfl); rotate_left; (simp only [Act.put, zA, zZ, zS, i64_w, i32_w]; rfl)
  refine pure_ (i := 2) (N := some 6) (v := ?_) (a' := ?_) (zF 9 7) rfl rfl (any_of HT_.out (by kernel_rfl)) (fun _ _ _ h => h) (Or.inl ⟨by rfl, ?_⟩) ?_ ?_
  rotate_left; (intro w'; go_simp; with_reducible rfl); rotate_left; (simp only [Act.put, zA, zZ, zS, i64_w, i32_w]; rfl)
  refine pure_ (i := 4) (N := some 8) (v := ?_) (a' := ?_) (zF 9 23) rfl rfl (any_of HT_.out (by kernel_rfl)) (fun _ _ _ h => h) (Or.inl ⟨by rfl, ?_⟩) ?_ ?_
  rotate_left; (intro w'; go_simp; with_reducible rfl); rotate_left; (simp only [Act.put, zA, zZ, zS, i64_w, i32_w]; rfl)
  refine pure_ (i := 5) (N := some 9) (v := ?_) (a' := ?_) (zF 9 55) rfl rfl (any_of HT_.out (by kernel_rfl)) (fun _ _ _ h => h) (Or.inl ⟨by rfl, ?_⟩) ?_ ?_
  rotate_left; (intro w'; go_simp; with_reducible rfl); rotate_left; (simp only [Act.put, zA, zZ, zS, i64_w, i32_w]; rfl)
  refine pure_ (i := 6) (N := some 10) (v := ?_) (a' := ?_) (zF 9 119) rfl rfl (any_of HT_.out (by kernel_rfl)) (fun _ _ _ h => h) (Or.inl ⟨by rfl, ?_⟩) ?_ ?_
  rotate_left; (intro w'; go_simp; with_reducible rfl); rotate_left; (simp only [Act.put, zA, zZ, zS, i64_w, i32_w]; rfl)
  refine take_ (i := 3) (N := some 7) (v := ?_) (a' := ?_) (zF 9 127) rfl rfl (take_ofW HT_.out HW_.out (by kernel_rfl)) (fun _ _ _ h => h) (Or.inl ⟨by rfl, ?_⟩) hHeld ?_ ?_
  rotate_left; (rintro w' ⟨s0, s1⟩; go_simp; with_reducible rfl); rotate_left; (simp only [Act.put, zA, zZ, zS, i64_w, i32_w]; rfl)
  refine take_ (i := 7) (N := some 11) (v := ?_) (a' := ?_) (zF 9 255) rfl rfl (take_ofW HT_.out HW_.out (by kernel_rfl)) (fun _ _ _ h => h) (Or.inl ⟨by rfl, ?_⟩) hHeld ?_ ?_
  rotate_left; (rintro w' ⟨s0, s1⟩; go_simp; with_reducible rfl); rotate_left; (simp only [Act.put, zA, zZ, zS, i64_w, i32_w]; rfl)
  refine pure_ (i := 8) (N := some 12) (v := ?_) (a' := ?_) (zF 9 511) rfl rfl (any_of HT_.out (by kernel_rfl)) (fun _ _ _ h => h) (Or.inl ⟨by rfl, ?_⟩) ?_ ?_
  rotate_left; (intro w'; go_simp; with_reducible rfl); rotate_left; (simp only [Act.put, zA, zZ, zS, i64_w, i32_w]; rfl)
  refine done_ (done_of HT_.out (by kernel_rfl)) ?_
  clear hHeld
  go_wp2_with fail
  refine start_ (n := 21) (S := (fun w' => w'.cell? ⟨gm, 5, none⟩ = some (.slice (some ⟨gq, 0, none⟩) n n) ∧ w'.cell? ⟨gm, 3, none⟩ = some (.int .i64 (cnt : Int)) ∧ w'.cell? ⟨gq, cnt, none⟩ = some (.int .i64 x))) (ds := [20]) #[false, false, false, false, false, false, false, false, false, false, false, false, false, false, false, false, false, false, false, false, false] (by kernel_rfl) rfl rfl ⟨H2d.out.c5, H2d.out.c3, H2d.out.cpx HPL.out HX.out⟩ (fun hHeld => ?_)
  refine with_tabW p6_tab p6_bits (fun HT_ HW_ => ?_)
  have H3d := Aside0.mk (show MV B w0 w2d.drew gm gq n D T ⟨ps, da, pt, cnt, cmd, st⟩ vd vp ve from H2d.out.drew)
  clear H2d
  generalize w2d.drew = w3d at H3d hHeld ⊢
  refine pure_ (i := 0) (N := some 65) (v := ?_) (a' := ?_) (zF 21 1) rfl rfl (any_of HT_.out (by kernel_rfl)) (fun _ _ _ h => h) (Or.inl ⟨by rfl, ?_⟩) ?_ ?_
  rotate_left; (intro w'; go_simp; with_reducible rfl); rotate_left; (simp only [Act.put, zA, zZ, zS, i64_w, i32_w]; rfl)
  refine pure_ (i := 1) (N := some 66) (v := ?_) (a' := ?_) (zF 21 3) rfl rfl (any_of HT_.out (by kernel_rfl)) (fun _ _ _ h => h) (Or.inl ⟨by rfl, ?_⟩) ?_ ?_
  rotate_left; (intro w'; go_simp; with_reducible rfl); rotate_left; (simp only [Act.put, zA, zZ, zS, i64_w, i32_w]; rfl)
  refine pure_ (i := 2) (N := some 67) (v := ?_) (a' := ?_) (zF 21 7) rfl rfl (any_of HT_.out (by kernel_rfl)) (fun _ _ _ h => h) (Or.inl ⟨by rfl, ?_⟩) ?_ ?_
  rotate_left; (intro w'; go_simp; with_reducible rfl); rotate_left; (simp only [Act.put, zA, zZ, zS, i64_w, i32_w]; rfl)
  refine pure_ (i := 4) (N := some 69) (v := ?_) (a' := ?_) (zF 21 23) rfl rfl (any_of HT_.out (by kernel_rfl)) (fun _ _ _ h => h) (Or.inl ⟨by rfl, ?_⟩) ?_ ?_
  rotate_left; (intro w'; go_simp; with_reducible rfl); rotate_left; (simp only [Act.put, zA, zZ, zS, i64_w, i32_w]; rfl)
  refine pure_ (i := 5) (N := some 70) (v := ?_) (a' := ?_) (zF 21 55) rfl rfl (any_of HT_.out (by kernel_rfl)) (fun _ _ _ h => h) (Or.inl ⟨by rfl, ?_⟩) ?_ ?_
  rotate_left; (intro w'; go_simp; with_reducible rfl); rotate_left; (simp only [Act.put, zA, zZ, zS, i64_w, i32_w]; rfl)
  refine pure_ (i := 6) (N := some 71) (v := ?_) (a' := ?_) (zF 21 119) rfl rfl (any_of HT_.out (by kernel_rfl)) (fun _ _ _ h => h) (Or.inl ⟨by rfl, ?_⟩) ?_ ?_
  rotate_left; (intro w'; go_simp; with_reducible rfl); rotate_left; (simp only [Act.put, zA, zZ, zS, i64_w, i32_w]; rfl)
  refine pure_ (i := 8) (N := some 73) (v := ?_) (a' := ?_) (zF 21 375) rfl rfl (any_of HT_.out (by kernel_rfl)) (fun _ _ _ h => h) (Or.inl ⟨by rfl, ?_⟩) ?_ ?_
  rotate_left; (intro w'; go_simp; with_reducible rfl); rotate_left; (simp only [Act.put, zA, zZ, zS, i64_w, i32_w]; rfl)
  refine pure_ (i := 9) (N := some 74) (v := ?_) (a' := ?_) (zF 21 887) rfl rfl (any_of HT_.out (by kernel_rfl)) (fun _ _ _ h => h) (Or.inl ⟨by rfl, ?_⟩) ?_ ?_
  rotate_left; (intro w'; go_simp; with_reducible rfl); rotate_left; (simp only [Act.put, zA, zZ, zS, i64_w, i32_w]; rfl)
  refine pure_ (i := 10) (N := some 75) (v := ?_) (a' := ?_) (zF 21 1911) rfl rfl (any_of HT_.out (by kernel_rfl)) (fun _ _ _ h => h) (Or.inl ⟨by rfl, ?_⟩) ?_ ?_
  rotate_left; (intro w'; go_simp; with_reducible rfl); rotate_left; (simp only [Act.put, zA, zZ, zS, i64_w, i32_w]; rfl)
  refine pure_ (i := 12) (N := some 77) (v := ?_) (a' := ?_) (zF 21 6007) rfl rfl (any_of HT_.out (by kernel_rfl)) (fun _ _ _ h => h) (Or.inl ⟨by rfl, ?_⟩) ?_ ?_
  rotate_left; (intro w'; go_simp; with_reducible rfl); rotate_left; (simp only [Act.put, zA, zZ, zS, i64_w, i32_w]; rfl)
  refine pure_ (i := 13) (N := some 78) (v := ?_) (a' := ?_) (zF 21 14199) rfl rfl (any_of HT_.out (by kernel_rfl)) (fun _ _ _ h => h) (Or.inl ⟨by rfl, ?_⟩) ?_ ?_
  rotate_left; (intro w'; go_simp; with_reducible rfl); rotate_left; (simp only [Act.put, zA, zZ, zS, i64_w, i32_w]; rfl)
  refine pure_ (i := 14) (N := some 79) (v := ?_) (a' := ?_) (zF 21 30583) rfl rfl (any_of HT_.out (by kernel_rfl)) (fun _ _ _ h => h) (Or.inl ⟨by rfl, ?_⟩) ?_ ?_
  rotate_left; (intro w'; go_simp; with_reducible rfl); rotate_left; (simp only [Act.put, zA, zZ, zS, i64_w, i32_w]; rfl)
  refine take_ (i := 3) (N := some 68) (v := ?_) (a' := ?_) (zF 21 30591) rfl rfl (take_ofW HT_.out HW_.out (by kernel_rfl)) (fun _ _ _ h => h) (Or.inl ⟨by rfl, ?_⟩) hHeld ?_ ?_
  rotate_left; (rintro w' ⟨s0, s1, s2⟩; go_simp; with_reducible rfl); rotate_left; (simp only [Act.put, zA, zZ, zS, i64_w, i32_w]; rfl)
  refine take_ (i := 7) (N := some 72) (v := ?_) (a' := ?_) (zF 21 30719) rfl rfl (take_ofW HT_.out HW_.out (by kernel_rfl)) (fun _ _ _ h => h) (Or.inl ⟨by rfl, ?_⟩) hHeld ?_ ?_
  rotate_left; (rintro w' ⟨s0, s1, s2⟩; go_simp; with_reducible rfl); rotate_left; (simp only [Act.put, zA, zZ, zS, i64_w, i32_w]; rfl)
  refine take_ (i := 11) (N := some 76) (v := ?_) (a' := ?_) (zF 21 32767) rfl rfl (take_ofW HT_.out HW_.out (by kernel_rfl)) (fun _ _ _ h => h) (Or.inl ⟨by rfl, ?_⟩) hHeld ?_ ?_
  rotate_left; (rintro w' ⟨s0, s1, s2⟩; go_simp; with_reducible rfl); rotate_left; (simp only [Act.put, zA, zZ, zS, i64_w, i32_w]; rfl)
  refine take_ (i := 15) (N := some 80) (v := ?_) (a' := ?_) (zF 21 65535) rfl rfl (take_ofW HT_.out HW_.out (by kernel_rfl)) (fun _ _ _ h => h) (Or.inl ⟨by rfl, ?_⟩) hHeld ?_ ?_
  rotate_left; (rintro w' ⟨s0, s1, s2⟩; go_simp; with_reducible rfl); rotate_left; (simp only [Act.put, zA, zZ, zS, i64_w, i32_w]; rfl)
  refine pure_ (i := 16) (N := some 81) (v := ?_) (a' := ?_) (zF 21 131071) rfl rfl (any_of HT_.out (by kernel_rfl)) (fun _ _ _ h => h) (Or.inl ⟨by rfl, ?_⟩) ?_ ?_
  rotate_left; (intro w'; go_simp; with_reducible rfl); rotate_left; (simp only [Act.put, zA, zZ, zS, i64_w, i32_w]; rfl)
  refine take_ (i := 17) (N := some 82) (v := ?_) (a' := ?_) (zF 21 262143) rfl rfl (take_ofW HT_.out HW_.out (by kernel_rfl)) (fun _ _ _ h => h) (Or.inl ⟨by rfl, ?_⟩) hHeld ?_ ?_
  rotate_left; (rintro w' ⟨s0, s1, s2⟩; go_simp; with_reducible rfl); rotate_left; (simp only [Act.put, zA, zZ, zS, i64_w, i32_w]; rfl)
  refine pure_ (i := 18) (N := some 83) (v := ?_) (a' := ?_) (zF 21 524287) rfl rfl (any_of HT_.out (by kernel_rfl)) (fun _ _ _ h => h) (Or.inl ⟨by rfl, ?_⟩) ?_ ?_
  rotate_left; (intro w'; go_simp; with_reducible rfl); rotate_left; (simp only [Act.put, zA, zZ, zS, i64_w, i32_w]; rfl)
  refine pure_ (i := 19) (N := some 84) (v := ?_) (a' := ?_) (zF 21 1048575) rfl rfl (any_of HT_.out (by kernel_rfl)) (fun _ _ _ h => h) (Or.inl ⟨by rfl, ?_⟩) ?_ ?_
  rotate_left; (intro w'; go_simp; with_reducible rfl); rotate_left; (simp only [Act.put, zA, zZ, zS, i64_w, i32_w]; rfl)
  refine last_ (i := 20) (N := none) (zF 21 2097151) rfl rfl (one_of HT_.out (by kernel_rfl)) (by decide) (fun K hK => ?_)
  have q3d : w3d.cell? ⟨gq, cnt, none⟩ = some (.int .i64 x) := H3d.out.cpx HPL.out HX.out
  have qf3d := H3d.out.freep cnt
  refine skip_ (w1 := ?_) (by rfl) rfl ?_ ?_
  rotate_left
  · go_simp
    with_reducible rfl
  refine hK.out _ _ ?_
  clear hK K
  clear q3d qf3d
  refine done_ (done_of HT_.out (by kernel_rfl)) ?_
  clear hHeld
  have H3 := Aside0.mk (show MV B w0 (w3d.setCell ⟨gq, cnt, none⟩ (.int .i64 (Go.bits .or .i64 x (-2147483648)))) gm gq n D T ⟨ps.set cnt (Go.bits .or .i64 x (-2147483648)), da, pt, cnt, cmd, st⟩ vd vp ve from H3d.out.set_p cnt (Go.bits .or .i64 x (-2147483648)))
  clear H3d
  generalize w3d.setCell ⟨gq, cnt, none⟩ (.int .i64 (Go.bits .or .i64 x (-2147483648))) = w3 at H3 ⊢
  have c3 := H3.out.c3
  have f3 := H3.out.free 3
  have H9 := Aside0.mk (H3.out.set_cnt k2 (k2 : Int) rfl)
  go_wp2_with fail
  clear c3 f3 H3
  generalize w3.setCell ⟨gm, 3, none⟩ (.int .i64 (k2 : Int)) = w9 at H9 ⊢
  replace H9 : Aside0 (MV B w0 w9 gm gq n D T ⟨ps.set cnt (Go.bits .or .i64 x (-2147483648)), da, pt, k2, cmd, st⟩ vd vp ve) := ⟨H9.out⟩
  refine start_ (n := 9) (S := (fun w' => w'.cell? ⟨gm, 3, none⟩ = some (.int .i64 (k2 : Int)) ∧ w'.cell? ⟨gm, 0, none⟩ = some (.int .i64 (n : Int)))) (ds := []) #[false, false, false, false, false, false, false, false, false] (by kernel_rfl) rfl rfl ⟨H9.out.c3, H9.out.c0⟩ (fun hHeld => ?_)
  refine with_tabW p8_tab p8_bits (fun HT_ HW_ => ?_)
  have H10d := Aside0.mk (show MV B w0 w9.drew gm gq n D T ⟨ps.set cnt (Go.bits .or .i64 x (-2147483648)), da, pt, k2, cmd, st⟩ vd vp ve from H9.out.drew)
  clear H9
  generalize w9.drew = w10d at H10d hHeld ⊢
  refine pure_ (i := 0) (N := some 92) (v := ?_) (a' := ?_) (zF 9 1) rfl rfl (any_of HT_.out (by kernel_rfl)) (fun _ _ _ h => h) (Or.inl ⟨by rfl, ?_⟩) ?_ ?_
  rotate_left; (intro w'; go_simp; with_reducible rfl); rotate_left; (simp only [Act.put, zA, zZ, zS, i64_w, i32_w]; rfl)
  refine pure_ (i := 1) (N := some 93) (v := ?_) (a' := ?_) (zF 9 3) rfl rfl (any_of HT_.out (by kernel_rfl)) (fun _ _ _ h => h) (Or.inl ⟨by rfl, ?_⟩) ?_ ?_
  rotate_left; (intro w'; go_simp; with_reducible rfl); rotate_left; (simp only [Act.put, zA, zZ, zS, i64_w, i32_w]; rfl)
  refine pure_ (i := 2) (N := some 94) (v := ?_) (a' := ?_) (zF 9 7) rfl rfl (any_of HT_.out (by kernel_rfl)) (fun _ _ _ h => h) (Or.inl ⟨by rfl, ?_⟩) ?_ ?_
  rotate_left; (intro w'; go_simp; with_reducible rfl); rotate_left; (simp only [Act.put, zA, zZ, zS, i64_w, i32_w]; rfl)
  refine pure_ (i := 4) (N := some 96) (v := ?_) (a' := ?_) (zF 9 23) rfl rfl (any_of HT_.out (by kernel_rfl)) (fun _ _ _ h => h) (Or.inl ⟨by rfl, ?_⟩) ?_ ?_
  rotate_left; (intro w'; go_simp; with_reducible rfl); rotate_left; (simp only [Act.put, zA, zZ, zS, i64_w, i32_w]; rfl)
  refine pure_ (i := 5) (N := some 97) (v := ?_) (a' := ?_) (zF 9 55) rfl rfl (any_of HT_.out (by kernel_rfl)) (fun _ _ _ h => h) (Or.inl ⟨by rfl, ?_⟩) ?_ ?_
  rotate_left; (intro w'; go_simp; with_reducible rfl); rotate_left; (simp only [Act.put, zA, zZ, zS, i64_w, i32_w]; rfl)
  refine pure_ (i := 6) (N := some 98) (v := ?_) (a' := ?_) (zF 9 119) rfl rfl (any_of HT_.out (by kernel_rfl)) (fun _ _ _ h => h) (Or.inl ⟨by rfl, ?_⟩) ?_ ?_
  rotate_left; (intro w'; go_simp; with_reducible rfl); rotate_left; (simp only [Act.put, zA, zZ, zS, i64_w, i32_w]; rfl)
  refine take_ (i := 3) (N := some 95) (v := ?_) (a' := ?_) (zF 9 127) rfl rfl (take_ofW HT_.out HW_.out (by kernel_rfl)) (fun _ _ _ h => h) (Or.inl ⟨by rfl, ?_⟩) hHeld ?_ ?_
  rotate_left; (rintro w' ⟨s0, s1⟩; go_simp; with_reducible rfl); rotate_left; (simp only [Act.put, zA, zZ, zS, i64_w, i32_w]; rfl)
  refine take_ (i := 7) (N := some 99) (v := ?_) (a' := ?_) (zF 9 255) rfl rfl (take_ofW HT_.out HW_.out (by kernel_rfl)) (fun _ _ _ h => h) (Or.inl ⟨by rfl, ?_⟩) hHeld ?_ ?_
  rotate_left; (rintro w' ⟨s0, s1⟩; go_simp; with_reducible rfl); rotate_left; (simp only [Act.put, zA, zZ, zS, i64_w, i32_w]; rfl)
  refine pure_ (i := 8) (N := some 100) (v := ?_) (a' := ?_) (zF 9 511) rfl rfl (any_of HT_.out (by kernel_rfl)) (fun _ _ _ h => h) (Or.inl ⟨by rfl, ?_⟩) ?_ ?_
  rotate_left; (intro w'; go_simp; with_reducible rfl); rotate_left; (simp only [Act.put, zA, zZ, zS, i64_w, i32_w]; rfl)
  refine done_ (done_of HT_.out (by kernel_rfl)) ?_
  clear hHeld
  go_wp2
  go_end0
  refine ⟨rfl, ?_⟩
  have h_ := H10d.out
  rw [HK2.out] at h_
  rw [HX.out] at h_
  exact h_
set_option maxHeartbeats 8000000 in
set_option maxRecDepth 100000 in
theorem pp_semi_more (B : Nat) (w0 w : World) (gm gq n T : Nat) (D : Int) (s : SM) (vd vp : Value) (ve : VE) (h : MV B w0 w gm gq n D T s vd vp ve) (hpl : s.cnt < n) (hmo : s.cnt + 1 < n) (hbig : n ≤ 1000000) :
    Calls Tryd.prog 54 #[.pointer (some ⟨gm, 0, none⟩), .int .u8 59] w fun e w' => e = .returned (.tuple #[]) ∧ MV B w0 w' gm gq n D T (sparam n s 59) vd vp ve := by
  obtain ⟨ps, da, pt, cnt, cmd, st⟩ := s
  replace hpl : cnt < n := hpl
  replace hmo : cnt + 1 < n := hmo
  have hpn : ps.length = n := h.hn
  have hsp : sparam n ⟨ps, da, pt, cnt, cmd, st⟩ 59 = ⟨ps.set (cnt + 1) 2147483647, da, pt, cnt + 1, cmd, st⟩ := by
    unfold sparam
    rw [if_neg (show ¬ n ≤ cnt by omega), if_neg (by decide), if_neg (by decide)]
    try rfl
  rw [hsp]
  clear hsp hpn
  obtain ⟨w1, hw1⟩ : ∃ w1, w1 = w := ⟨_, rfl⟩
  rw [← hw1]
  have H1 := Aside0.mk (show MV B w0 w1 gm gq n D T ⟨ps, da, pt, cnt, cmd, st⟩ vd vp ve by rw [hw1]; exact h)
  clear hw1 h
  have HPL := Aside0.mk hpl
  have tn : decide ((n : Int) ≤ (cnt : Int)) = false := decide_eq_false (by omega)
  have p0 : (0 : Int) ≤ (cnt : Int) := by omega
  have p1 : (cnt : Int) < (n : Int) := by omega
  obtain ⟨k2, hk2⟩ : ∃ k2, k2 = cnt + 1 := ⟨_, rfl⟩
  have HK2 := Aside0.mk hk2
  have hwr : wrap64 ((cnt : Int) + 1) = (k2 : Int) := by have := hbig; unfold wrap64; omega
  have HM := Aside0.mk (show k2 < n by omega)
  have tm : decide ((k2 : Int) < (n : Int)) = true := decide_eq_true (by omega)
  have r0 : (0 : Int) ≤ (k2 : Int) := by omega
  have r1 : (k2 : Int) < (n : Int) := by omega
  clear hpl hmo hbig hk2
  go_enter Tryd.func54, Tryd.ntmps54
  go_wp2_with fail
  refine start_ (n := 9) (S := (fun w' => w'.cell? ⟨gm, 0, none⟩ = some (.int .i64 (n : Int)) ∧ w'.cell? ⟨gm, 3, none⟩ = some (.int .i64 (cnt : Int)))) (ds := []) #[false, false, false, false, false, false, false, false, false] (by kernel_rfl) rfl rfl ⟨H1.out.c0, H1.out.c3⟩ (fun hHeld => ?_)
  refine with_tabW p0_tab p0_bits (fun HT_ HW_ => ?_)
  have H2d := Aside0.mk (show MV B w0 w1.drew gm gq n D T ⟨ps, da, pt, cnt, cmd, st⟩ vd vp ve from H1.out.drew)
  clear H1
  generalize w1.drew = w2d at H2d hHeld ⊢
  refine pure_ (i := 0) (N := some 4) (v := ?_) (a' := ?_) (zF 9 1) rfl rfl (any_of HT_.out (by kernel_rfl)) (fun _ _ _ h => h) (Or.inl ⟨by rfl, ?_⟩) ?_ ?_
  rotate_left; (intro w'; go_simp; with_reducible rfl); rotate_left; (simp only [Act.put, zA, zZ, zS, i64_w, i32_w]; rfl)
  refine pure_ (i := 1) (N := some 5) (v := ?_) (a' := ?_) (zF 9 3) rfl rfl (any_of HT_.out (by kernel_rfl)) (fun _ _ _ h => h) (Or.inl ⟨by rfl, ?_⟩) ?_ ?_
  rotate_left; (intro w'; go_simp; with_reducible rfl); rotate_left; (simp only [Act.put, zA, zZ, zS, i64_w, i32_w]; rfl)
  refine pure_ (i := 2) (N := some 6) (v := ?_) (a' := ?_) (zF 9 7) rfl rfl (any_of HT_.out (by kernel_rfl)) (fun _ _ _ h => h) (Or.inl ⟨by rfl, ?_⟩) ?_ ?_
  rotate_left; (intro w'; go_simp; with_reducible rfl); rotate_left; (simp only [Act.put, zA, zZ, zS, i64_w, i32_w]; rfl)
  refine pure_ (i := 4) (N := some 8) (v := ?_) (a' := ?_) (zF 9 23) rfl rfl (any_of HT_.out (by kernel_rfl)) (fun _ _ _ h => h) (Or.inl ⟨by rfl, ?_⟩) ?_ ?_
  rotate_left; (intro w'; go_simp; with_reducible rfl); rotate_left; (simp only [Act.put, zA, zZ, zS, i64_w, i32_w]; rfl)
  refine pure_ (i := 5) (N := some 9) (v := ?_) (a' := ?_) (zF 9 55) rfl rfl (any_of HT_.out (by kernel_rfl)) (fun _ _ _ h => h) (Or.inl ⟨by rfl, ?_⟩) ?_ ?_
  rotate_left; (intro w'; go_simp; with_reducible rfl); rotate_left; (simp only [Act.put, zA, zZ, zS, i64_w, i32_w]; rfl)
  refine pure_ (i := 6) (N := some 10) (v := ?_) (a' := ?_) (zF 9 119) rfl rfl (any_of HT_.out (by kernel_rfl)) (fun _ _ _ h => h) (Or.inl ⟨by rfl, ?_⟩) ?_ ?_
  rotate_left; (intro w'; go_simp; with_reducible rfl); rotate_left; (simp only [Act.put, zA, zZ, zS, i64_w, i32_w]; rfl)
  refine take_ (i := 3) (N := some 7) (v := ?_) (a' := ?_) (zF 9 127) rfl rfl (take_ofW HT_.out HW_.out (by kernel_rfl)) (fun _ _ _ h => h) (Or.inl ⟨by rfl, ?_⟩) hHeld ?_ ?_
  rotate_left; (rintro w' ⟨s0, s1⟩; go_simp; with_reducible rfl); rotate_left; (simp only [Act.put, zA, zZ, zS, i64_w, i32_w]; rfl)
  refine take_ (i := 7) (N := some 11) (v := ?_) (a' := ?_) (zF 9 255) rfl rfl (take_ofW HT_.out HW_.out (by kernel_rfl)) (fun _ _ _ h => h) (Or.inl ⟨by rfl, ?_⟩) hHeld ?_ ?_
  rotate_left; (rintro w' ⟨s0, s1⟩; go_simp; with_reducible rfl); rotate_left; (simp only [Act.put, zA, zZ, zS, i64_w, i32_w]; rfl)
  refine pure_ (i := 8) (N := some 12) (v := ?_) (a' := ?_) (zF 9 511) rfl rfl (any_of HT_.out (by kernel_rfl)) (fun _ _ _ h => h) (Or.inl ⟨by rfl, ?_⟩) ?_ ?_
  rotate_left; (intro w'; go_simp; with_reducible rfl); rotate_left; (simp only [Act.put, zA, zZ, zS, i64_w, i32_w]; rfl)
  refine done_ (done_of HT_.out (by kernel_rfl)) ?_
  clear hHeld
  have c3 := H2d.out.c3
  have f3 := H2d.out.free 3
  have H9 := Aside0.mk (H2d.out.set_cnt k2 (k2 : Int) rfl)
  go_wp2_with fail
  clear c3 f3 H2d
  generalize w2d.setCell ⟨gm, 3, none⟩ (.int .i64 (k2 : Int)) = w9 at H9 ⊢
  replace H9 : Aside0 (MV B w0 w9 gm gq n D T ⟨ps, da, pt, k2, cmd, st⟩ vd vp ve) := ⟨H9.out⟩
  refine start_ (n := 9) (S := (fun w' => w'.cell? ⟨gm, 3, none⟩ = some (.int .i64 (k2 : Int)) ∧ w'.cell? ⟨gm, 0, none⟩ = some (.int .i64 (n : Int)))) (ds := []) #[false, false, false, false, false, false, false, false, false] (by kernel_rfl) rfl rfl ⟨H9.out.c3, H9.out.c0⟩ (fun hHeld => ?_)
  refine with_tabW p8_tab p8_bits (fun HT_ HW_ => ?_)
  have H10d := Aside0.mk (show MV B w0 w9.drew gm gq n D T ⟨ps, da, pt, k2, cmd, st⟩ vd vp ve from H9.out.drew)
  clear H9
  generalize w9.drew = w10d at H10d hHeld ⊢
  refine pure_ (i := 0) (N := some 92) (v := ?_) (a' := ?_) (zF 9 1) rfl rfl (any_of HT_.out (by kernel_rfl)) (fun _ _ _ h => h) (Or.inl ⟨by rfl, ?_⟩) ?_ ?_
  rotate_left; (intro w'; go_simp; with_reducible rfl); rotate_left; (simp only [Act.put, zA, zZ, zS, i64_w, i32_w]; rfl)
  refine pure_ (i := 1) (N := some 93) (v := ?_) (a' := ?_) (zF 9 3) rfl rfl (any_of HT_.out (by kernel_rfl)) (fun _ _ _ h => h) (Or.inl ⟨by rfl, ?_⟩) ?_ ?_
  rotate_left; (intro w'; go_simp; with_reducible rfl); rotate_left; (simp only [Act.put, zA, zZ, zS, i64_w, i32_w]; rfl)
  refine pure_ (i := 2) (N := some 94) (v := ?_) (a' := ?_) (zF 9 7) rfl rfl (any_of HT_.out (by kernel_rfl)) (fun _ _ _ h => h) (Or.inl ⟨by rfl, ?_⟩) ?_ ?_
  rotate_left; (intro w'; go_simp; with_reducible rfl); rotate_left; (simp only [Act.put, zA, zZ, zS, i64_w, i32_w]; rfl)
  refine pure_ (i := 4) (N := some 96) (v := ?_) (a' := ?_) (zF 9 23) rfl rfl (any_of HT_.out (by kernel_rfl)) (fun _ _ _ h => h) (Or.inl ⟨by rfl, ?_⟩) ?_ ?_
  rotate_left; (intro w'; go_simp; with_reducible rfl); rotate_left; (simp only [Act.put, zA, zZ, zS, i64_w, i32_w]; rfl)
  refine pure_ (i := 5) (N := some 97) (v := ?_) (a' := ?_) (zF 9 55) rfl rfl (any_of HT_.out (by kernel_rfl)) (fun _ _ _ h => h) (Or.inl ⟨by rfl, ?_⟩) ?_ ?_
  rotate_left; (intro w'; go_simp; with_reducible rfl); rotate_left; (simp only [Act.put, zA, zZ, zS, i64_w, i32_w]; rfl)
  refine pure_ (i := 6) (N := some 98) (v := ?_) (a' := ?_) (zF 9 119) rfl rfl (any_of HT_.out (by kernel_rfl)) (fun _ _ _ h => h) (Or.inl ⟨by rfl, ?_⟩) ?_ ?_
  rotate_left; (intro w'; go_simp; with_reducible rfl); rotate_left; (simp only [Act.put, zA, zZ, zS, i64_w, i32_w]; rfl)
  refine take_ (i := 3) (N := some 95) (v := ?_) (a' := ?_) (zF 9 127) rfl rfl (take_ofW HT_.out HW_.out (by kernel_rfl)) (fun _ _ _ h => h) (Or.inl ⟨by rfl, ?_⟩) hHeld ?_ ?_
  rotate_left; (rintro w' ⟨s0, s1⟩; go_simp; with_reducible rfl); rotate_left; (simp only [Act.put, zA, zZ, zS, i64_w, i32_w]; rfl)
  refine take_ (i := 7) (N := some 99) (v := ?_) (a' := ?_) (zF 9 255) rfl rfl (take_ofW HT_.out HW_.out (by kernel_rfl)) (fun _ _ _ h => h) (Or.inl ⟨by rfl, ?_⟩) hHeld ?_ ?_
  rotate_left; (rintro w' ⟨s0, s1⟩; go_simp; with_reducible rfl); rotate_left; (simp only [Act.put, zA, zZ, zS, i64_w, i32_w]; rfl)
  refine pure_ (i := 8) (N := some 100) (v := ?_) (a' := ?_) (zF 9 511) rfl rfl (any_of HT_.out (by kernel_rfl)) (fun _ _ _ h => h) (Or.inl ⟨by rfl, ?_⟩) ?_ ?_
  rotate_left; (intro w'; go_simp; with_reducible rfl); rotate_left; (simp only [Act.put, zA, zZ, zS, i64_w, i32_w]; rfl)
  refine done_ (done_of HT_.out (by kernel_rfl)) ?_
  clear hHeld
  go_wp2_with fail
  refine start_ (n := 10) (S := (fun w' => w'.cell? ⟨gm, 5, none⟩ = some (.slice (some ⟨gq, 0, none⟩) n n) ∧ w'.cell? ⟨gm, 3, none⟩ = some (.int .i64 (k2 : Int)))) (ds := [9]) #[false, false, false, false, false, false, false, false, false, false] (by kernel_rfl) rfl rfl ⟨H10d.out.c5, H10d.out.c3⟩ (fun hHeld => ?_)
  refine with_tabW p9_tab p9_bits (fun HT_ HW_ => ?_)
  have H11d := Aside0.mk (show MV B w0 w10d.drew gm gq n D T ⟨ps, da, pt, k2, cmd, st⟩ vd vp ve from H10d.out.drew)
  clear H10d
  generalize w10d.drew = w11d at H11d hHeld ⊢
  refine pure_ (i := 0) (N := some 101) (v := ?_) (a' := ?_) (zF 10 1) rfl rfl (any_of HT_.out (by kernel_rfl)) (fun _ _ _ h => h) (Or.inl ⟨by rfl, ?_⟩) ?_ ?_
  rotate_left; (intro w'; go_simp; with_reducible rfl); rotate_left; (simp only [Act.put, zA, zZ, zS, i64_w, i32_w]; rfl)
  refine pure_ (i := 1) (N := some 102) (v := ?_) (a' := ?_) (zF 10 3) rfl rfl (any_of HT_.out (by kernel_rfl)) (fun _ _ _ h => h) (Or.inl ⟨by rfl, ?_⟩) ?_ ?_
  rotate_left; (intro w'; go_simp; with_reducible rfl); rotate_left; (simp only [Act.put, zA, zZ, zS, i64_w, i32_w]; rfl)
  refine pure_ (i := 2) (N := some 103) (v := ?_) (a' := ?_) (zF 10 7) rfl rfl (any_of HT_.out (by kernel_rfl)) (fun _ _ _ h => h) (Or.inl ⟨by rfl, ?_⟩) ?_ ?_
  rotate_left; (intro w'; go_simp; with_reducible rfl); rotate_left; (simp only [Act.put, zA, zZ, zS, i64_w, i32_w]; rfl)
  refine pure_ (i := 4) (N := some 105) (v := ?_) (a' := ?_) (zF 10 23) rfl rfl (any_of HT_.out (by kernel_rfl)) (fun _ _ _ h => h) (Or.inl ⟨by rfl, ?_⟩) ?_ ?_
  rotate_left; (intro w'; go_simp; with_reducible rfl); rotate_left; (simp only [Act.put, zA, zZ, zS, i64_w, i32_w]; rfl)
  refine pure_ (i := 5) (N := some 106) (v := ?_) (a' := ?_) (zF 10 55) rfl rfl (any_of HT_.out (by kernel_rfl)) (fun _ _ _ h => h) (Or.inl ⟨by rfl, ?_⟩) ?_ ?_
  rotate_left; (intro w'; go_simp; with_reducible rfl); rotate_left; (simp only [Act.put, zA, zZ, zS, i64_w, i32_w]; rfl)
  refine pure_ (i := 6) (N := some 107) (v := ?_) (a' := ?_) (zF 10 119) rfl rfl (any_of HT_.out (by kernel_rfl)) (fun _ _ _ h => h) (Or.inl ⟨by rfl, ?_⟩) ?_ ?_
  rotate_left; (intro w'; go_simp; with_reducible rfl); rotate_left; (simp only [Act.put, zA, zZ, zS, i64_w, i32_w]; rfl)
  refine take_ (i := 3) (N := some 104) (v := ?_) (a' := ?_) (zF 10 127) rfl rfl (take_ofW HT_.out HW_.out (by kernel_rfl)) (fun _ _ _ h => h) (Or.inl ⟨by rfl, ?_⟩) hHeld ?_ ?_
  rotate_left; (rintro w' ⟨s0, s1⟩; go_simp; with_reducible rfl); rotate_left; (simp only [Act.put, zA, zZ, zS, i64_w, i32_w]; rfl)
  refine take_ (i := 7) (N := some 108) (v := ?_) (a' := ?_) (zF 10 255) rfl rfl (take_ofW HT_.out HW_.out (by kernel_rfl)) (fun _ _ _ h => h) (Or.inl ⟨by rfl, ?_⟩) hHeld ?_ ?_
  rotate_left; (rintro w' ⟨s0, s1⟩; go_simp; with_reducible rfl); rotate_left; (simp only [Act.put, zA, zZ, zS, i64_w, i32_w]; rfl)
  refine pure_ (i := 8) (N := some 109) (v := ?_) (a' := ?_) (zF 10 511) rfl rfl (any_of HT_.out (by kernel_rfl)) (fun _ _ _ h => h) (Or.inl ⟨by rfl, ?_⟩) ?_ ?_
  rotate_left; (intro w'; go_simp; with_reducible rfl); rotate_left; (simp only [Act.put, zA, zZ, zS, i64_w, i32_w]; rfl)
  refine last_ (i := 9) (N := none) (zF 10 1023) rfl rfl (one_of HT_.out (by kernel_rfl)) (by decide) (fun K hK => ?_)
  have q11d : w11d.cell? ⟨gq, k2, none⟩ = some (.int .i64 (ps.getD k2 0)) := H11d.out.cpx HM.out rfl
  have qf11d := H11d.out.freep k2
  refine skip_ (w1 := ?_) (by rfl) rfl ?_ ?_
  rotate_left
  · go_simp
    with_reducible rfl
  refine hK.out _ _ ?_
  clear hK K
  clear q11d qf11d
  refine done_ (done_of HT_.out (by kernel_rfl)) ?_
  clear hHeld
  have H11 := Aside0.mk (show MV B w0 (w11d.setCell ⟨gq, k2, none⟩ (.int .i64 2147483647)) gm gq n D T ⟨ps.set k2 2147483647, da, pt, k2, cmd, st⟩ vd vp ve from H11d.out.set_p k2 2147483647)
  clear H11d
  generalize w11d.setCell ⟨gq, k2, none⟩ (.int .i64 2147483647) = w11 at H11 ⊢
  go_wp2
  go_end0
  refine ⟨rfl, ?_⟩
  have h_ := H11.out
  rw [HK2.out] at h_
  exact h_
set_option maxHeartbeats 8000000 in
set_option maxRecDepth 100000 in
theorem pp_semi_last (B : Nat) (w0 w : World) (gm gq n T : Nat) (D : Int) (s : SM) (vd vp : Value) (ve : VE) (h : MV B w0 w gm gq n D T s vd vp ve) (hpl : s.cnt < n) (hmo : n ≤ s.cnt + 1) (hbig : n ≤ 1000000) :
    Calls Tryd.prog 54 #[.pointer (some ⟨gm, 0, none⟩), .int .u8 59] w fun e w' => e = .returned (.tuple #[]) ∧ MV B w0 w' gm gq n D T (sparam n s 59) vd vp ve := by
  obtain ⟨ps, da, pt, cnt, cmd, st⟩ := s
  replace hpl : cnt < n := hpl
  replace hmo : n ≤ cnt + 1 := hmo
  have hpn : ps.length = n := h.hn
  have hsp : sparam n ⟨ps, da, pt, cnt, cmd, st⟩ 59 = ⟨ps, da, pt, cnt + 1, cmd, st⟩ := by
    unfold sparam
    rw [if_neg (show ¬ n ≤ cnt by omega), if_neg (by decide), if_neg (by decide)]
    show (⟨ps.set (cnt + 1) 2147483647, da, pt, cnt + 1, cmd, st⟩ : SM) = _
    rw [List.set_eq_of_length_le (by omega)]
  rw [hsp]
  clear hsp hpn
  obtain ⟨w1, hw1⟩ : ∃ w1, w1 = w := ⟨_, rfl⟩
  rw [← hw1]
  have H1 := Aside0.mk (show MV B w0 w1 gm gq n D T ⟨ps, da, pt, cnt, cmd, st⟩ vd vp ve by rw [hw1]; exact h)
  clear hw1 h
  have HPL := Aside0.mk hpl
  have tn : decide ((n : Int) ≤ (cnt : Int)) = false := decide_eq_false (by omega)
  have p0 : (0 : Int) ≤ (cnt : Int) := by omega
  have p1 : (cnt : Int) < (n : Int) := by omega
  obtain ⟨k2, hk2⟩ : ∃ k2, k2 = cnt + 1 := ⟨_, rfl⟩
  have HK2 := Aside0.mk hk2
  have hwr : wrap64 ((cnt : Int) + 1) = (k2 : Int) := by have := hbig; unfold wrap64; omega
  have tm : decide ((k2 : Int) < (n : Int)) = false := decide_eq_false (by omega)
  have tmn : ¬ k2 < n := by omega
  clear hpl hmo hbig hk2
  go_enter Tryd.func54, Tryd.ntmps54
  go_wp2_with fail
  refine start_ (n := 9) (S := (fun w' => w'.cell? ⟨gm, 0, none⟩ = some (.int .i64 (n : Int)) ∧ w'.cell? ⟨gm, 3, none⟩ = some (.int .i64 (cnt : Int)))) (ds := []) #[false, false, false, false, false, false, false, false, false] (by kernel_rfl) rfl rfl ⟨H1.out.c0, H1.out.c3⟩ (fun hHeld => ?_)
  refine with_tabW p0_tab p0_bits (fun HT_ HW_ => ?_)
  have H2d := Aside0.mk (show MV B w0 w1.drew gm gq n D T ⟨ps, da, pt, cnt, cmd, st⟩ vd vp ve from H1.out.drew)
  clear H1
  generalize w1.drew = w2d at H2d hHeld ⊢
  refine pure_ (i := 0) (N := some 4) (v := ?_) (a' := ?_) (zF 9 1) rfl rfl (any_of HT_.out (by kernel_rfl)) (fun _ _ _ h => h) (Or.inl ⟨by rfl, ?_⟩) ?_ ?_
  rotate_left; (intro w'; go_simp; with_reducible rfl); rotate_left; (simp only [Act.put, zA, zZ, zS, i64_w, i32_w]; rfl)
  refine pure_ (i := 1) (N := some 5) (v := ?_) (a' := ?_) (zF 9 3) rfl rfl (any_of HT_.out (by kernel_rfl)) (fun _ _ _ h => h) (Or.inl ⟨by rfl, ?_⟩) ?_ ?_
  rotate_left; (intro w'; go_simp; with_reducible rfl); rotate_left; (simp only [Act.put, zA, zZ, zS, i64_w, i32_w]; rfl)
  refine pure_ (i := 2) (N := some 6) (v := ?_) (a' := ?_) (zF 9 7) rfl rfl (any_of HT_.out (by kernel_rfl)) (fun _ _ _ h => h) (Or.inl ⟨by rfl, ?_⟩) ?_ ?_
  rotate_left; (intro w'; go_simp; with_reducible rfl); rotate_left; (simp only [Act.put, zA, zZ, zS, i64_w, i32_w]; rfl)
  refine pure_ (i := 4) (N := some 8) (v := ?_) (a' := ?_) (zF 9 23) rfl rfl (any_of HT_.out (by kernel_rfl)) (fun _ _ _ h => h) (Or.inl ⟨by rfl, ?_⟩) ?_ ?_
  rotate_left; (intro w'; go_simp; with_reducible rfl); rotate_left; (simp only [Act.put, zA, zZ, zS, i64_w, i32_w]; rfl)
  refine pure_ (i := 5) (N := some 9) (v := ?_) (a' := ?_) (zF 9 55) rfl rfl (any_of HT_.out (by kernel_rfl)) (fun _ _ _ h => h) (Or.inl ⟨by rfl, ?_⟩) ?_ ?_
  rotate_left; (intro w'; go_simp; with_reducible rfl); rotate_left; (simp only [Act.put, zA, zZ, zS, i64_w, i32_w]; rfl)
  refine pure_ (i := 6) (N := some 10) (v := ?_) (a' := ?_) (zF 9 119) rfl rfl (any_of HT_.out (by kernel_rfl)) (fun _ _ _ h => h) (Or.inl ⟨by rfl, ?_⟩) ?_ ?_
  rotate_left; (intro w'; go_simp; with_reducible rfl); rotate_left; (simp only [Act.put, zA, zZ, zS, i64_w, i32_w]; rfl)
  refine take_ (i := 3) (N := some 7) (v := ?_) (a' := ?_) (zF 9 127) rfl rfl (take_ofW HT_.out HW_.out (by kernel_rfl)) (fun _ _ _ h => h) (Or.inl ⟨by rfl, ?_⟩) hHeld ?_ ?_
  rotate_left; (rintro w' ⟨s0, s1⟩; go_simp; with_reducible rfl); rotate_left; (simp only [Act.put, zA, zZ, zS, i64_w, i32_w]; rfl)
  refine take_ (i := 7) (N := some 11) (v := ?_) (a' := ?_) (zF 9 255) rfl rfl (take_ofW HT_.out HW_.out (by kernel_rfl)) (fun _ _ _ h => h) (Or.inl ⟨by rfl, ?_⟩) hHeld ?_ ?_
  rotate_left; (rintro w' ⟨s0, s1⟩; go_simp; with_reducible rfl); rotate_left; (simp only [Act.put, zA, zZ, zS, i64_w, i32_w]; rfl)
  refine pure_ (i := 8) (N := some 12) (v := ?_) (a' := ?_) (zF 9 511) rfl rfl (any_of HT_.out (by kernel_rfl)) (fun _ _ _ h => h) (Or.inl ⟨by rfl, ?_⟩) ?_ ?_
  rotate_left; (intro w'; go_simp; with_reducible rfl); rotate_left; (simp only [Act.put, zA, zZ, zS, i64_w, i32_w]; rfl)
  refine done_ (done_of HT_.out (by kernel_rfl)) ?_
  clear hHeld
  have c3 := H2d.out.c3
  have f3 := H2d.out.free 3
  have H9 := Aside0.mk (H2d.out.set_cnt k2 (k2 : Int) rfl)
  go_wp2_with fail
  clear c3 f3 H2d
  generalize w2d.setCell ⟨gm, 3, none⟩ (.int .i64 (k2 : Int)) = w9 at H9 ⊢
  replace H9 : Aside0 (MV B w0 w9 gm gq n D T ⟨ps, da, pt, k2, cmd, st⟩ vd vp ve) := ⟨H9.out⟩
  refine start_ (n := 9) (S := (fun w' => w'.cell? ⟨gm, 3, none⟩ = some (.int .i64 (k2 : Int)) ∧ w'.cell? ⟨gm, 0, none⟩ = some (.int .i64 (n : Int)))) (ds := []) #[false, false, false, false, false, false, false, false, false] (by kernel_rfl) rfl rfl ⟨H9.out.c3, H9.out.c0⟩ (fun hHeld => ?_)
  refine with_tabW p8_tab p8_bits (fun HT_ HW_ => ?_)
  have H10d := Aside0.mk (show MV B w0 w9.drew gm gq n D T ⟨ps, da, pt, k2, cmd, st⟩ vd vp ve from H9.out.drew)
  clear H9
  generalize w9.drew = w10d at H10d hHeld ⊢
  refine pure_ (i := 0) (N := some 92) (v := ?_) (a' := ?_) (zF 9 1) rfl rfl (any_of HT_.out (by kernel_rfl)) (fun _ _ _ h => h) (Or.inl ⟨by rfl, ?_⟩) ?_ ?_
  rotate_left; (intro w'; go_simp; with_reducible rfl); rotate_left; (simp only [Act.put, zA, zZ, zS, i64_w, i32_w]; rfl)
  refine pure_ (i := 1) (N := some 93) (v := ?_) (a' := ?_) (zF 9 3) rfl rfl (any_of HT_.out (by kernel_rfl)) (fun _ _ _ h => h) (Or.inl ⟨by rfl, ?_⟩) ?_ ?_
  rotate_left; (intro w'; go_simp; with_reducible rfl); rotate_left; (simp only [Act.put, zA, zZ, zS, i64_w, i32_w]; rfl)
  refine pure_ (i := 2) (N := some 94) (v := ?_) (a' := ?_) (zF 9 7) rfl rfl (any_of HT_.out (by kernel_rfl)) (fun _ _ _ h => h) (Or.inl ⟨by rfl, ?_⟩) ?_ ?_
  rotate_left; (intro w'; go_simp; with_reducible rfl); rotate_left; (simp only [Act.put, zA, zZ, zS, i64_w, i32_w]; rfl)
  refine pure_ (i := 4) (N := some 96) (v := ?_) (a' := ?_) (zF 9 23) rfl rfl (any_of HT_.out (by kernel_rfl)) (fun _ _ _ h => h) (Or.inl ⟨by rfl, ?_⟩) ?_ ?_
  rotate_left; (intro w'; go_simp; with_reducible rfl); rotate_left; (simp only [Act.put, zA, zZ, zS, i64_w, i32_w]; rfl)
  refine pure_ (i := 5) (N := some 97) (v := ?_) (a' := ?_) (zF 9 55) rfl rfl (any_of HT_.out (by kernel_rfl)) (fun _ _ _ h => h) (Or.inl ⟨by rfl, ?_⟩) ?_ ?_
  rotate_left; (intro w'; go_simp; with_reducible rfl); rotate_left; (simp only [Act.put, zA, zZ, zS, i64_w, i32_w]; rfl)
  refine pure_ (i := 6) (N := some 98) (v := ?_) (a' := ?_) (zF 9 119) rfl rfl (any_of HT_.out (by kernel_rfl)) (fun _ _ _ h => h) (Or.inl ⟨by rfl, ?_⟩) ?_ ?_
  rotate_left; (intro w'; go_simp; with_reducible rfl); rotate_left; (simp only [Act.put, zA, zZ, zS, i64_w, i32_w]; rfl)
  refine take_ (i := 3) (N := some 95) (v := ?_) (a' := ?_) (zF 9 127) rfl rfl (take_ofW HT_.out HW_.out (by kernel_rfl)) (fun _ _ _ h => h) (Or.inl ⟨by rfl, ?_⟩) hHeld ?_ ?_
  rotate_left; (rintro w' ⟨s0, s1⟩; go_simp; with_reducible rfl); rotate_left; (simp only [Act.put, zA, zZ, zS, i64_w, i32_w]; rfl)
  refine take_ (i := 7) (N := some 99) (v := ?_) (a' := ?_) (zF 9 255) rfl rfl (take_ofW HT_.out HW_.out (by kernel_rfl)) (fun _ _ _ h => h) (Or.inl ⟨by rfl, ?_⟩) hHeld ?_ ?_
  rotate_left; (rintro w' ⟨s0, s1⟩; go_simp; with_reducible rfl); rotate_left; (simp only [Act.put, zA, zZ, zS, i64_w, i32_w]; rfl)
  refine pure_ (i := 8) (N := some 100) (v := ?_) (a' := ?_) (zF 9 511) rfl rfl (any_of HT_.out (by kernel_rfl)) (fun _ _ _ h => h) (Or.inl ⟨by rfl, ?_⟩) ?_ ?_
  rotate_left; (intro w'; go_simp; with_reducible rfl); rotate_left; (simp only [Act.put, zA, zZ, zS, i64_w, i32_w]; rfl)
  refine done_ (done_of HT_.out (by kernel_rfl)) ?_
  clear hHeld
  go_wp2
  go_end0
  refine ⟨rfl, ?_⟩
  have h_ := H10d.out
  rw [HK2.out] at h_
  exact h_
set_option maxHeartbeats 8000000 in
set_option maxRecDepth 100000 in
theorem pp_full (B : Nat) (w0 w : World) (gm gq n T : Nat) (D : Int) (s : SM) (vd vp : Value) (ve : VE) (h : MV B w0 w gm gq n D T s vd vp ve) (b : Int) (hpl : n ≤ s.cnt) :
    Calls Tryd.prog 54 #[.pointer (some ⟨gm, 0, none⟩), .int .u8 b] w fun e w' => e = .returned (.tuple #[]) ∧ MV B w0 w' gm gq n D T (sparam n s b) vd vp ve := by
  obtain ⟨ps, da, pt, cnt, cmd, st⟩ := s
  replace hpl : n ≤ cnt := hpl
  have hsp : sparam n ⟨ps, da, pt, cnt, cmd, st⟩ b = ⟨ps, da, pt, cnt, cmd, st⟩ := by unfold sparam; rw [if_pos hpl]
  rw [hsp]
  clear hsp
  obtain ⟨w1, hw1⟩ : ∃ w1, w1 = w := ⟨_, rfl⟩
  rw [← hw1]
  have H1 := Aside0.mk (show MV B w0 w1 gm gq n D T ⟨ps, da, pt, cnt, cmd, st⟩ vd vp ve by rw [hw1]; exact h)
  clear hw1 h
  have tn : decide ((n : Int) ≤ (cnt : Int)) = true := decide_eq_true (by omega)
  go_enter Tryd.func54, Tryd.ntmps54
  go_wp2_with fail
  refine start_ (n := 9) (S := (fun w' => w'.cell? ⟨gm, 0, none⟩ = some (.int .i64 (n : Int)) ∧ w'.cell? ⟨gm, 3, none⟩ = some (.int .i64 (cnt : Int)))) (ds := []) #[false, false, false, false, false, false, false, false, false] (by kernel_rfl) rfl rfl ⟨H1.out.c0, H1.out.c3⟩ (fun hHeld => ?_)
  refine with_tabW p0_tab p0_bits (fun HT_ HW_ => ?_)
  have H2d := Aside0.mk (show MV B w0 w1.drew gm gq n D T ⟨ps, da, pt, cnt, cmd, st⟩ vd vp ve from H1.out.drew)
  clear H1
  generalize w1.drew = w2d at H2d hHeld ⊢
  refine pure_ (i := 0) (N := some 4) (v := ?_) (a' := ?_) (zF 9 1) rfl rfl (any_of HT_.out (by kernel_rfl)) (fun _ _ _ h => h) (Or.inl ⟨by rfl, ?_⟩) ?_ ?_
  rotate_left; (intro w'; go_simp; with_reducible rfl); rotate_left; (simp only [Act.put, zA, zZ, zS, i64_w, i32_w]; rfl)
  refine pure_ (i := 1) (N := some 5) (v := ?_) (a' := ?_) (zF 9 3) rfl rfl (any_of HT_.out (by kernel_rfl)) (fun _ _ _ h => h) (Or.inl ⟨by rfl, ?_⟩) ?_ ?_
  rotate_left; (intro w'; go_simp; with_reducible rfl); rotate_left; (simp only [Act.put, zA, zZ, zS, i64_w, i32_w]; rfl)
  refine pure_ (i := 2) (N := some 6) (v := ?_) (a' := ?_) (zF 9 7) rfl rfl (any_of HT_.out (by kernel_rfl)) (fun _ _ _ h => h) (Or.inl ⟨by rfl, ?_⟩) ?_ ?_
  rotate_left; (intro w'; go_simp; with_reducible rfl); rotate_left; (simp only [Act.put, zA, zZ, zS, i64_w, i32_w]; rfl)
  refine pure_ (i := 4) (N := some 8) (v := ?_) (a' := ?_) (zF 9 23) rfl rfl (any_of HT_.out (by kernel_rfl)) (fun _ _ _ h => h) (Or.inl ⟨by rfl, ?_⟩) ?_ ?_
  rotate_left; (intro w'; go_simp; with_reducible rfl); rotate_left; (simp only [Act.put, zA, zZ, zS, i64_w, i32_w]; rfl)
  refine pure_ (i := 5) (N := some 9) (v := ?_) (a' := ?_) (zF 9 55) rfl rfl (any_of HT_.out (by kernel_rfl)) (fun _ _ _ h => h) (Or.inl ⟨by rfl, ?_⟩) ?_ ?_
  rotate_left; (intro w'; go_simp; with_reducible rfl); rotate_left; (simp only [Act.put, zA, zZ, zS, i64_w, i32_w]; rfl)
  refine pure_ (i := 6) (N := some 10) (v := ?_) (a' := ?_) (zF 9 119) rfl rfl (any_of HT_.out (by kernel_rfl)) (fun _ _ _ h => h) (Or.inl ⟨by rfl, ?_⟩) ?_ ?_
  rotate_left; (intro w'; go_simp; with_reducible rfl); rotate_left; (simp only [Act.put, zA, zZ, zS, i64_w, i32_w]; rfl)
  refine take_ (i := 3) (N := some 7) (v := ?_) (a' := ?_) (zF 9 127) rfl rfl (take_ofW HT_.out HW_.out (by kernel_rfl)) (fun _ _ _ h => h) (Or.inl ⟨by rfl, ?_⟩) hHeld ?_ ?_
  rotate_left; (rintro w' ⟨s0, s1⟩; go_simp; with_reducible rfl); rotate_left; (simp only [Act.put, zA, zZ, zS, i64_w, i32_w]; rfl)
  refine take_ (i := 7) (N := some 11) (v := ?_) (a' := ?_) (zF 9 255) rfl rfl (take_ofW HT_.out HW_.out (by kernel_rfl)) (fun _ _ _ h => h) (Or.inl ⟨by rfl, ?_⟩) hHeld ?_ ?_
  rotate_left; (rintro w' ⟨s0, s1⟩; go_simp; with_reducible rfl); rotate_left; (simp only [Act.put, zA, zZ, zS, i64_w, i32_w]; rfl)
  refine pure_ (i := 8) (N := some 12) (v := ?_) (a' := ?_) (zF 9 511) rfl rfl (any_of HT_.out (by kernel_rfl)) (fun _ _ _ h => h) (Or.inl ⟨by rfl, ?_⟩) ?_ ?_
  rotate_left; (intro w'; go_simp; with_reducible rfl); rotate_left; (simp only [Act.put, zA, zZ, zS, i64_w, i32_w]; rfl)
  refine done_ (done_of HT_.out (by kernel_rfl)) ?_
  clear hHeld
  go_wp2
  refine bodyPost_ret (results_none rfl _ _ _) rfl ?_
  exact ⟨rfl, H2d.out⟩
theorem param_ (B : Nat) (w0 w : World) (gm gq n T : Nat) (D : Int) (s : SM) (vd vp : Value) (ve : VE) (h : MV B w0 w gm gq n D T s vd vp ve) (b : Int) (hb0 : 48 ≤ b) (hb1 : b ≤ 59) (hbig : n ≤ 1000000) :
    Calls Tryd.prog 54 #[.pointer (some ⟨gm, 0, none⟩), .int .u8 b] w fun e w' => e = .returned (.tuple #[]) ∧ MV B w0 w' gm gq n D T (sparam n s b) vd vp ve := by
  by_cases hpl : n ≤ s.cnt
  · exact pp_full B w0 w gm gq n T D s vd vp ve h b hpl
  by_cases hd : b ≤ 57
  · by_cases hx : qx s = 2147483647
    · exact pp_dig_miss B w0 w gm gq n T D s vd vp ve h b ⟨hb0, hd⟩ (by omega) hx
    · exact pp_dig_some B w0 w gm gq n T D s vd vp ve h b ⟨hb0, hd⟩ (by omega) hx
  by_cases hc : b = 58
  · subst hc
    by_cases hm : s.cnt + 1 < n
    · exact pp_colon_more B w0 w gm gq n T D s vd vp ve h (by omega) hm hbig
    · exact pp_colon_last B w0 w gm gq n T D s vd vp ve h (by omega) (by omega) hbig
  · obtain rfl : b = 59 := by omega
    by_cases hm : s.cnt + 1 < n
    · exact pp_semi_more B w0 w gm gq n T D s vd vp ve h (by omega) hm hbig
    · exact pp_semi_last B w0 w gm gq n T D s vd vp ve h (by omega) (by omega) hbig
end Go.Proofs.YtmpmfdghdaofhaaDoor.Sp

namespace Go.Proofs.YtmpmfdghdaofhaaDoor.Sp
set_option linter.unusedVariables false
set_option linter.unusedSimpArgs false
open Go Go.RowKit Go.Proofs.YtmpmfdghdaofhaaDoor.Pm Go.Proofs.YtmpmfdghdaofhaaDoorW.PrintWords Go.Proofs.YtmpmfdghdaofhaaDoorW.PrintLast Go.Proofs.YtmpmfdghdaofhaaDoorW.PrintMore
theorem info71 : (Tryd.prog.info? 71).map (fun i => (i.zero, i.size, i.bytes)) = some (some (.agg #[.int .i64 0, .int .i64 0, .int .u8 0, .int .i64 0, .slice none 0 0, .slice none 0 0]), 6, 80) := by kernel_rfl
theorem info5 : (Tryd.prog.info? 5).map (fun i => (i.zero, i.size, i.bytes)) = some (some (.int .u8 0), 1, 1) := by kernel_rfl
theorem slice_snoc {α : Type} {d : Kd α} {e B : Nat} {w : World} {ok : Nat → Prop} {v : Value} {xs : List α} {x : α} (h : d.R e w B ok v (xs ++ [x])) : ∃ A c, v = .slice A (xs.length + 1) c := by
  obtain ⟨A, c, e⟩ := Kd.R_slice h
  exact ⟨A, c, by rw [e, List.length_append]; rfl⟩
def sexec (s : SM) (b : Int) : SM := ⟨s.ps, s.da, s.pt, s.cnt, b, s.st⟩
set_option maxHeartbeats 8000000 in
set_option maxRecDepth 100000 in
theorem sa_print (B : Nat) (w0 w : World) (gm gq n T : Nat) (D : Int) (s : SM) (vd vp : Value) (ve : VE) (h : MV B w0 w gm gq n D T s vd vp ve) (b nx : Int) (hb0 : 0 ≤ b) (hb1 : b < 256) (hbig : T ≤ 1000000) :
    Calls Tryd.prog 39 #[.pointer (some ⟨gm, 0, none⟩), .int .i64 9, .int .u8 b, .int .i64 nx] w fun e w' => e = .returned (.tuple #[]) ∧ ∃ v8, MV B w0 w' gm gq n D (T + 1) (sexec s b) vd vp ⟨v8, ve.e ++ [⟨0, b, 0, 0, [], []⟩]⟩ := by
  have hwb : wrap64 b = b := by unfold wrap64; omega
  have HBG := Aside0.mk hbig
  have c4 := h.c4
  have f4 := h.free 4
  have H1 := Aside0.mk (h.set_cmd b)
  clear h hb0 hb1 hbig
  go_enter Tryd.func39, Tryd.ntmps39
  go_upto_region 5 with (fail)
  generalize w.setCell ⟨gm, 4, none⟩ (.int .i64 b) = w2 at H1 ⊢
  clear c4 f4
  obtain ⟨xe, hel, her, heh⟩ := H1.out.re
  have HEL := Aside0.mk hel
  have HER := Aside0.mk her
  have HEH := Aside0.mk heh
  clear hel her heh
  have c8 := H1.out.c8
  have HX8 := Aside0.mk (fun (w1 : World) (hg : World.grownBy _ w1 _) => (H1.out.cell_grown hg (H1.out.fm rfl (by decide) HER.out) 8).trans (show _ = some ve.v from rfl))
  have HY8 := Aside0.mk (fun (w1 : World) (hg : World.grownBy _ w1 _) => H1.out.free_grown hg (H1.out.fm rfl (by decide) HER.out) 8)
  go_wp2_with (first | ((with_reducible refine gate_builtin (b := .append) (xs := #[.tmp 24, .tmp 28]) rfl ?_); at_builtin; refine Kd.R_append (Kd.raw 6) (w0 := _) B rfl (.tmp 24) (.tmp 28) 38 71 (.agg #[.int .i64 0, .int .i64 0, .int .u8 0, .int .i64 0, .slice none 0 0, .slice none 0 0]) 80 rfl Tryd.underlying38 info71 rfl (by decide) (by omega) ve.v xe [.int .i64 0, .int .i64 b, .int .u8 0, .int .i64 0, .slice none 0 0, .slice none 0 0] [.int .i64 0, .int .i64 b, .int .u8 0, .int .i64 0, .slice none 0 0, .slice none 0 0] (fun _ => True) (fun _ => False) rfl rfl ?aP (fun _ hk => hk.elim) ?aF ?aO (Below.refl _ _) ?aS ?aL ?_; (case aP => exact ⟨rfl, rfl, fun u hu => by simp at hu; rcases hu with rfl | rfl | rfl | rfl | rfl | rfl <;> rfl⟩); (case aF => exact (fun _ _ => trivial)); (case aO => exact HER.out); (case aS => exact H1.out.lt); (case aL => have := HEL.out; have := HBG.out; omega); intro v1 w1 ho hb hg hat; have HG := Aside0.mk hg; have HO := Aside0.mk ho; have HBB := Aside0.mk hb; clear ho hb hg hat; obtain ⟨A1, c1, e1⟩ : ∃ A c, v1 = .slice A (xe.length + 1) c := slice_snoc HO.out; subst e1; have k8 := HX8.out w1 HG.out; have j8 := HY8.out w1 HG.out) | fail)
  go_end0
  exact ⟨rfl, _, H1.out.put_e HEL.out HER.out HEH.out (Ev1.plain _ _ _ _ _ _ _) HO.out HBB.out HG.out⟩
set_option maxHeartbeats 8000000 in
set_option maxRecDepth 100000 in
theorem sa_exec (B : Nat) (w0 w : World) (gm gq n T : Nat) (D : Int) (s : SM) (vd vp : Value) (ve : VE) (h : MV B w0 w gm gq n D T s vd vp ve) (b nx : Int) (hb0 : 0 ≤ b) (hb1 : b < 256) (hbig : T ≤ 1000000) :
    Calls Tryd.prog 39 #[.pointer (some ⟨gm, 0, none⟩), .int .i64 5, .int .u8 b, .int .i64 nx] w fun e w' => e = .returned (.tuple #[]) ∧ ∃ v8, MV B w0 w' gm gq n D (T + 1) (sexec s b) vd vp ⟨v8, ve.e ++ [⟨1, 0, b, 0, [], []⟩]⟩ := by
  have hwb : wrap64 b = b := by unfold wrap64; omega
  have HBG := Aside0.mk hbig
  have c4 := h.c4
  have f4 := h.free 4
  have H1 := Aside0.mk (h.set_cmd b)
  clear h hb0 hb1 hbig
  go_enter Tryd.func39, Tryd.ntmps39
  go_upto_region 8 with (fail)
  generalize w.setCell ⟨gm, 4, none⟩ (.int .i64 b) = w2 at H1 ⊢
  clear c4 f4
  obtain ⟨xe, hel, her, heh⟩ := H1.out.re
  have HEL := Aside0.mk hel
  have HER := Aside0.mk her
  have HEH := Aside0.mk heh
  clear hel her heh
  have c8 := H1.out.c8
  have HX8 := Aside0.mk (fun (w1 : World) (hg : World.grownBy _ w1 _) => (H1.out.cell_grown hg (H1.out.fm rfl (by decide) HER.out) 8).trans (show _ = some ve.v from rfl))
  have HY8 := Aside0.mk (fun (w1 : World) (hg : World.grownBy _ w1 _) => H1.out.free_grown hg (H1.out.fm rfl (by decide) HER.out) 8)
  go_wp2_with (first | ((with_reducible refine gate_builtin (b := .append) (xs := #[.tmp 43, .tmp 46]) rfl ?_); at_builtin; refine Kd.R_append (Kd.raw 6) (w0 := _) B rfl (.tmp 43) (.tmp 46) 38 71 (.agg #[.int .i64 0, .int .i64 0, .int .u8 0, .int .i64 0, .slice none 0 0, .slice none 0 0]) 80 rfl Tryd.underlying38 info71 rfl (by decide) (by omega) ve.v xe [.int .i64 1, .int .i64 0, .int .u8 b, .int .i64 0, .slice none 0 0, .slice none 0 0] [.int .i64 1, .int .i64 0, .int .u8 b, .int .i64 0, .slice none 0 0, .slice none 0 0] (fun _ => True) (fun _ => False) rfl rfl ?aP (fun _ hk => hk.elim) ?aF ?aO (Below.refl _ _) ?aS ?aL ?_; (case aP => exact ⟨rfl, rfl, fun u hu => by simp at hu; rcases hu with rfl | rfl | rfl | rfl | rfl | rfl <;> rfl⟩); (case aF => exact (fun _ _ => trivial)); (case aO => exact HER.out); (case aS => exact H1.out.lt); (case aL => have := HEL.out; have := HBG.out; omega); intro v1 w1 ho hb hg hat; have HG := Aside0.mk hg; have HO := Aside0.mk ho; have HBB := Aside0.mk hb; clear ho hb hg hat; obtain ⟨A1, c1, e1⟩ : ∃ A c, v1 = .slice A (xe.length + 1) c := slice_snoc HO.out; subst e1; have k8 := HX8.out w1 HG.out; have j8 := HY8.out w1 HG.out) | fail)
  go_end0
  exact ⟨rfl, _, H1.out.put_e HEL.out HER.out HEH.out (Ev1.plain _ _ _ _ _ _ _) HO.out HBB.out HG.out⟩
def sprefix (s : SM) (b : Int) : SM := ⟨s.ps, s.da, s.pt, s.cnt, Go.bits .or .i64 (Go.bits .andNot .i64 s.cmd 65280) (wrap64 (b * 256)), s.st⟩
def sinter (s : SM) (b : Int) : SM := ⟨s.ps, s.da, s.pt, s.cnt, Go.bits .or .i64 (Go.bits .andNot .i64 s.cmd 16711680) (wrap64 (b * 65536)), s.st⟩
def sstart (s : SM) (b : Int) : SM := ⟨s.ps, [], s.pt, s.cnt, if 4 ≤ s.st ∧ s.st ≤ 7 then Go.bits .or .i64 s.cmd b else 2147483647, s.st⟩
def snew (s : SM) (b : Int) : SM := ⟨s.ps, s.da, [b], s.cnt, s.cmd, s.st⟩
set_option maxHeartbeats 8000000 in
set_option maxRecDepth 100000 in
theorem sa_prefix (B : Nat) (w0 w : World) (gm gq n T : Nat) (D : Int) (s : SM) (vd vp : Value) (ve : VE) (h : MV B w0 w gm gq n D T s vd vp ve) (b nx : Int) (hb0 : 0 ≤ b) (hb1 : b < 256) :
    Calls Tryd.prog 39 #[.pointer (some ⟨gm, 0, none⟩), .int .i64 3, .int .u8 b, .int .i64 nx] w fun e w' => e = .returned (.tuple #[]) ∧ MV B w0 w' gm gq n D T (sprefix s b) vd vp ve := by
  have hwb : wrap64 b = b := by unfold wrap64; omega
  have H1 := Aside0.mk (h.set_cmd (Go.bits .or .i64 (Go.bits .andNot .i64 s.cmd 65280) (wrap64 (b * 256))))
  have c4 := h.c4
  have f4 := h.free 4
  clear h hb0 hb1
  go_enter Tryd.func39, Tryd.ntmps39
  go_wp2
  go_end0
  exact ⟨rfl, H1.out⟩
set_option maxHeartbeats 8000000 in
set_option maxRecDepth 100000 in
theorem sa_inter (B : Nat) (w0 w : World) (gm gq n T : Nat) (D : Int) (s : SM) (vd vp : Value) (ve : VE) (h : MV B w0 w gm gq n D T s vd vp ve) (b nx : Int) (hb0 : 0 ≤ b) (hb1 : b < 256) (hst2 : nx ≠ 14) :
    Calls Tryd.prog 39 #[.pointer (some ⟨gm, 0, none⟩), .int .i64 2, .int .u8 b, .int .i64 nx] w fun e w' => e = .returned (.tuple #[]) ∧ MV B w0 w' gm gq n D T (sinter s b) vd vp ve := by
  have hwb : wrap64 b = b := by unfold wrap64; omega
  have t2 : (nx == 14) = false := by simpa using hst2
  have H1 := Aside0.mk (h.set_cmd (Go.bits .or .i64 (Go.bits .andNot .i64 s.cmd 16711680) (wrap64 (b * 65536))))
  have c4 := h.c4
  have f4 := h.free 4
  clear h hb0 hb1
  go_enter Tryd.func39, Tryd.ntmps39
  go_wp2
  go_end0
  exact ⟨rfl, H1.out⟩
set_option maxHeartbeats 8000000 in
set_option maxRecDepth 100000 in
theorem sa_none (B : Nat) (w0 w : World) (gm gq n T : Nat) (D : Int) (s : SM) (vd vp : Value) (ve : VE) (h : MV B w0 w gm gq n D T s vd vp ve) (b nx : Int) (hb0 : 0 ≤ b) (hb1 : b < 256) :
    Calls Tryd.prog 39 #[.pointer (some ⟨gm, 0, none⟩), .int .i64 0, .int .u8 b, .int .i64 nx] w fun e w' => e = .returned (.tuple #[]) ∧ MV B w0 w' gm gq n D T (s) vd vp ve := by
  have H1 := Aside0.mk h
  clear h hb0 hb1
  go_enter Tryd.func39, Tryd.ntmps39
  go_wp2
  go_end0
  exact ⟨rfl, H1.out⟩
set_option maxHeartbeats 8000000 in
set_option maxRecDepth 100000 in
theorem sa_clear (B : Nat) (w0 w : World) (gm gq n T : Nat) (D : Int) (s : SM) (vd vp : Value) (ve : VE) (h : MV B w0 w gm gq n D T s vd vp ve) (b nx : Int) (hb0 : 0 ≤ b) (hb1 : b < 256) (hn : 0 < n) :
    Calls Tryd.prog 39 #[.pointer (some ⟨gm, 0, none⟩), .int .i64 1, .int .u8 b, .int .i64 nx] w fun e w' => e = .returned (.tuple #[]) ∧ MV B w0 w' gm gq n D T (sclear s) vd vp ve := by
  have H1 := Aside0.mk h
  have HN := Aside0.mk hn
  clear h hb0 hb1 hn
  go_enter Tryd.func39, Tryd.ntmps39
  go_wp2_with fail
  refine (clear_ B w0 w gm gq n T D s vd vp ve H1.out HN.out).mono ?_
  rintro e w1 ⟨rfl, h1⟩
  go_wp2
  go_end0
  exact ⟨rfl, h1⟩
set_option maxHeartbeats 8000000 in
set_option maxRecDepth 100000 in
theorem sa_param (B : Nat) (w0 w : World) (gm gq n T : Nat) (D : Int) (s : SM) (vd vp : Value) (ve : VE) (h : MV B w0 w gm gq n D T s vd vp ve) (b nx : Int) (hb0 : 0 ≤ b) (hb1 : b < 256) (hd0 : 48 ≤ b) (hd1 : b ≤ 59) (hbig : n ≤ 1000000) :
    Calls Tryd.prog 39 #[.pointer (some ⟨gm, 0, none⟩), .int .i64 8, .int .u8 b, .int .i64 nx] w fun e w' => e = .returned (.tuple #[]) ∧ MV B w0 w' gm gq n D T (sparam n s b) vd vp ve := by
  have H1 := Aside0.mk h
  have HD := Aside0.mk (show 48 ≤ b ∧ b ≤ 59 from ⟨hd0, hd1⟩)
  have HN := Aside0.mk hbig
  clear h hb0 hb1 hd0 hd1 hbig
  go_enter Tryd.func39, Tryd.ntmps39
  go_wp2_with fail
  refine (param_ B w0 w gm gq n T D s vd vp ve H1.out b HD.out.1 HD.out.2 HN.out).mono ?_
  rintro e w1 ⟨rfl, h1⟩
  go_wp2
  go_end0
  exact ⟨rfl, h1⟩
set_option maxHeartbeats 8000000 in
set_option maxRecDepth 100000 in
theorem sa_start_in (B : Nat) (w0 w : World) (gm gq n T : Nat) (D : Int) (s : SM) (vd vp : Value) (ve : VE) (h : MV B w0 w gm gq n D T s vd vp ve) (b nx : Int) (hb0 : 0 ≤ b) (hb1 : b < 256) (hst : 4 ≤ s.st ∧ s.st ≤ 7) :
    Calls Tryd.prog 39 #[.pointer (some ⟨gm, 0, none⟩), .int .i64 6, .int .u8 b, .int .i64 nx] w fun e w' => e = .returned (.tuple #[]) ∧ ∃ vd', MV B w0 w' gm gq n D T (sstart s b) vd' vp ve := by
  have hwb : wrap64 b = b := by unfold wrap64; omega
  have t4 : decide (4 ≤ s.st) = true := decide_eq_true hst.1
  have t7 : decide (s.st ≤ 7) = true := decide_eq_true hst.2
  have H1 := h.no_d
  have H2 := Aside0.mk (show MV B w0 _ gm gq n D T (sstart s b) (.slice none 0 0) vp ve from by
    have h_ := H1.set_cmd (Go.bits .or .i64 s.cmd b)
    unfold sstart
    rw [if_pos hst]
    exact h_)
  obtain ⟨Ad, cd, hvd⟩ := Kd.R_slice h.rd
  have c6 := h.c6
  have f6 := h.free 6
  have c2 := H1.c2
  have c4 := H1.c4
  have f4 := H1.free 4
  subst hvd
  clear h H1 hb0 hb1 hst
  go_enter Tryd.func39, Tryd.ntmps39
  go_wp2
  go_end0
  exact ⟨rfl, _, H2.out⟩
set_option maxHeartbeats 8000000 in
set_option maxRecDepth 100000 in
theorem sa_start_lo (B : Nat) (w0 w : World) (gm gq n T : Nat) (D : Int) (s : SM) (vd vp : Value) (ve : VE) (h : MV B w0 w gm gq n D T s vd vp ve) (b nx : Int) (hb0 : 0 ≤ b) (hb1 : b < 256) (hst : s.st < 4) :
    Calls Tryd.prog 39 #[.pointer (some ⟨gm, 0, none⟩), .int .i64 6, .int .u8 b, .int .i64 nx] w fun e w' => e = .returned (.tuple #[]) ∧ ∃ vd', MV B w0 w' gm gq n D T (sstart s b) vd' vp ve := by
  have hwb : wrap64 b = b := by unfold wrap64; omega
  have t4 : decide (4 ≤ s.st) = false := decide_eq_false (by omega)
  have H1 := h.no_d
  have H2 := Aside0.mk (show MV B w0 _ gm gq n D T (sstart s b) (.slice none 0 0) vp ve from by
    have h_ := H1.set_cmd 2147483647
    unfold sstart
    rw [if_neg (by omega)]
    exact h_)
  obtain ⟨Ad, cd, hvd⟩ := Kd.R_slice h.rd
  have c6 := h.c6
  have f6 := h.free 6
  have c2 := H1.c2
  have c4 := H1.c4
  have f4 := H1.free 4
  subst hvd
  clear h H1 hb0 hb1 hst
  go_enter Tryd.func39, Tryd.ntmps39
  go_wp2
  go_end0
  exact ⟨rfl, _, H2.out⟩
set_option maxHeartbeats 8000000 in
set_option maxRecDepth 100000 in
theorem sa_start_hi (B : Nat) (w0 w : World) (gm gq n T : Nat) (D : Int) (s : SM) (vd vp : Value) (ve : VE) (h : MV B w0 w gm gq n D T s vd vp ve) (b nx : Int) (hb0 : 0 ≤ b) (hb1 : b < 256) (hst : 7 < s.st) :
    Calls Tryd.prog 39 #[.pointer (some ⟨gm, 0, none⟩), .int .i64 6, .int .u8 b, .int .i64 nx] w fun e w' => e = .returned (.tuple #[]) ∧ ∃ vd', MV B w0 w' gm gq n D T (sstart s b) vd' vp ve := by
  have hwb : wrap64 b = b := by unfold wrap64; omega
  have t4 : decide (4 ≤ s.st) = true := decide_eq_true (by omega)
  have t7 : decide (s.st ≤ 7) = false := decide_eq_false (by omega)
  have H1 := h.no_d
  have H2 := Aside0.mk (show MV B w0 _ gm gq n D T (sstart s b) (.slice none 0 0) vp ve from by
    have h_ := H1.set_cmd 2147483647
    unfold sstart
    rw [if_neg (by omega)]
    exact h_)
  obtain ⟨Ad, cd, hvd⟩ := Kd.R_slice h.rd
  have c6 := h.c6
  have f6 := h.free 6
  have c2 := H1.c2
  have c4 := H1.c4
  have f4 := H1.free 4
  subst hvd
  clear h H1 hb0 hb1 hst
  go_enter Tryd.func39, Tryd.ntmps39
  go_wp2
  go_end0
  exact ⟨rfl, _, H2.out⟩
set_option maxHeartbeats 8000000 in
set_option maxRecDepth 100000 in
theorem sa_new (B : Nat) (w0 w : World) (gm gq n T : Nat) (D : Int) (s : SM) (vd vp : Value) (ve : VE) (h : MV B w0 w gm gq n D T s vd vp ve) (b : Int) (hb0 : 0 ≤ b) (hb1 : b < 256) :
    Calls Tryd.prog 39 #[.pointer (some ⟨gm, 0, none⟩), .int .i64 2, .int .u8 b, .int .i64 14] w fun e w' => e = .returned (.tuple #[]) ∧ ∃ vp', MV B w0 w' gm gq n D (T + 1) (snew s b) vd vp' ve := by
  have H1 := Aside0.mk h
  have c7 := h.c7
  obtain ⟨Ap, cp, hvp⟩ := Kd.R_slice h.rp
  have HW := Aside0.mk (fun (w1 : World) (hb : Below w.heap.size w w1) => ((h.on hb).c7).trans (show _ = some vp from rfl))
  have HF := Aside0.mk (fun (w1 : World) (hb : Below w.heap.size w w1) => (h.on hb).free 7)
  clear h hb0 hb1 hvp
  go_enter Tryd.func39, Tryd.ntmps39
  go_wp2_with (first | ((with_reducible refine gate_dst (N := 70) rfl ?_); refine Kd.R_lit (Kd.int .u8) _ 5 ?hg (N := 70) ?hd (xs := ([b] : List Int)) (inner := [.int .u8 b]) (ok := fun _ => True) (okp := fun _ => True) ?hr ?hp (fun _ hk => hk) trivial (Below.refl _ _) (Nat.le_refl _) (by simp) ?_; (case hd => rfl); (case hg => rfl); (case hr => first | (go_simp; done) | (go_simp; rfl)); (case hp => exact (Reps.one (show Kd.M (Kd.int .u8) _ _ _ b [.int .u8 b] from rfl) (Reps.none _ _))); intro v1 w1 ho hb hg_ hnew_; clear hg_ hnew_; have HO := Aside0.mk ho; have HB1 := Aside0.mk hb; clear ho hb; obtain ⟨A1, c1, e1⟩ : ∃ A c, v1 = .slice A 1 c := Kd.R_slice HO.out; subst e1; have k7 := HW.out w1 HB1.out; have j7 := HF.out w1 HB1.out) | fail)
  refine bodyPost_ret (results_none rfl _ _ _) rfl ?_
  exact ⟨rfl, _, H1.out.new_p HO.out HB1.out⟩
theorem sa_start (B : Nat) (w0 w : World) (gm gq n T : Nat) (D : Int) (s : SM) (vd vp : Value) (ve : VE) (h : MV B w0 w gm gq n D T s vd vp ve) (b nx : Int) (hb0 : 0 ≤ b) (hb1 : b < 256) :
    Calls Tryd.prog 39 #[.pointer (some ⟨gm, 0, none⟩), .int .i64 6, .int .u8 b, .int .i64 nx] w fun e w' => e = .returned (.tuple #[]) ∧ ∃ vd', MV B w0 w' gm gq n D T (sstart s b) vd' vp ve := by
  by_cases h1 : s.st < 4
  · exact sa_start_lo B w0 w gm gq n T D s vd vp ve h b nx hb0 hb1 h1
  · by_cases h2 : 7 < s.st
    · exact sa_start_hi B w0 w gm gq n T D s vd vp ve h b nx hb0 hb1 h2
    · exact sa_start_in B w0 w gm gq n T D s vd vp ve h b nx hb0 hb1 ⟨by omega, by omega⟩
end Go.Proofs.YtmpmfdghdaofhaaDoor.Sp

namespace Go.Proofs.YtmpmfdghdaofhaaDoor.Sp
set_option linter.unusedVariables false
set_option linter.unusedSimpArgs false
open Go Go.RowKit Go.Proofs.YtmpmfdghdaofhaaDoor.Pm Go.Proofs.YtmpmfdghdaofhaaDoorW.PrintWords Go.Proofs.YtmpmfdghdaofhaaDoorW.PrintLast Go.Proofs.YtmpmfdghdaofhaaDoorW.PrintMore
def u25T : Bool × List (List Nat × List Nat) := (true, [([], []), ([0], [0]), ([1], [1]), ([2], [2]), ([3], [3]), ([4], [4]), ([5], [5]), ([6, 5], [5, 6]), ([7, 5], [5, 7]), ([8, 5], [5, 8]), ([9, 5], [5, 9]), ([5], [5]), ([11, 5], [5, 11]), ([12, 5], [5, 12]), ([13, 5], [5, 13]), ([10, 14, 5], [5, 10, 14]), ([5, 15], [5, 15])])
def u25B : List Nat := [0, 1, 3, 7, 15, 31, 63, 127, 255, 511, 1023, 63, 2111, 6207, 14399, 32767, 65535]
theorem u25_tab : rtab .any (opsOf Tryd.f39 25) = u25T := by kernel_rfl
theorem u25_bits : waitsOk u25T.2 u25B = true := by kernel_rfl
def sputc (s : SM) (b : Int) : Int := if s.st = 10 ∧ b = 59 ∧ s.cmd = 2147483647 then pnum s.da s.cmd else s.cmd
def sput (D : Int) (s : SM) (b : Int) : SM := ⟨s.ps, if D ≤ 0 ∨ (s.da.length : Int) < D then s.da ++ [b] else s.da, s.pt, s.cnt, sputc s b, s.st⟩
set_option maxHeartbeats 8000000 in
set_option maxRecDepth 100000 in
theorem sa_put (B : Nat) (w0 w : World) (gm gq n T : Nat) (D : Int) (s : SM) (vd vp : Value) (ve : VE) (h : MV B w0 w gm gq n D T s vd vp ve) (b nx : Int) (hb0 : 0 ≤ b) (hb1 : b < 256) (hbig : T ≤ 1000000) :
    Calls Tryd.prog 39 #[.pointer (some ⟨gm, 0, none⟩), .int .i64 7, .int .u8 b, .int .i64 nx] w fun e w' => e = .returned (.tuple #[]) ∧ ∃ vd', MV B w0 w' gm gq n D (T + 1) (sput D s b) vd' vp ve := by
  obtain ⟨ps, da, pt, cnt, cmd, st⟩ := s
  obtain ⟨c2, hc2⟩ : ∃ c, c = sputc ⟨ps, da, pt, cnt, cmd, st⟩ b := ⟨_, rfl⟩
  obtain ⟨tp, htp⟩ : ∃ t, t = decide (st = 10 ∧ b = 59 ∧ cmd = 2147483647) := ⟨_, rfl⟩
  have HC2 := Aside0.mk hc2
  have HTP := Aside0.mk htp
  have HBG := Aside0.mk hbig
  clear hc2 htp hbig hb0 hb1
  obtain ⟨w1, hw1⟩ : ∃ w1, w1 = w := ⟨_, rfl⟩
  rw [← hw1]
  have H1 := Aside0.mk (show MV B w0 w1 gm gq n D T ⟨ps, da, pt, cnt, cmd, st⟩ vd vp ve by rw [hw1]; exact h)
  clear hw1 h
  go_enter Tryd.func39, Tryd.ntmps39
  go_upto_region 23 with (fail)
  go_cut [137] from 122 to 137 (fun v wc => v = .bool tp ∧ Aside0 (MV B w0 wc gm gq n D T ⟨ps, da, pt, cnt, cmd, st⟩ vd vp ve))
  case first =>
    have x2 := H1.out.c2
    have x4 := H1.out.c4
    by_cases hs : st = 10
    · have ts : (st == 10) = true := by simpa using hs
      by_cases hb : b = 59
      · have tb : (b == 59) = true := by simpa using hb
        by_cases hc : cmd = 2147483647
        · have tc : (cmd == 2147483647) = true := by simpa using hc
          have ht : tp = true := by rw [HTP.out]; exact decide_eq_true ⟨hs, hb, hc⟩
          have HT := Aside0.mk ht
          clear ht hs hb hc
          go_wp2
          go_meet
          case rel => exact ⟨by rw [HT.out], ⟨H1.out⟩⟩
        · have tc : (cmd == 2147483647) = false := by simpa using hc
          have ht : tp = false := by rw [HTP.out]; exact decide_eq_false (fun h => hc h.2.2)
          have HT := Aside0.mk ht
          clear ht hs hb hc
          go_wp2
          go_meet
          case rel => exact ⟨by rw [HT.out], ⟨H1.out⟩⟩
      · have tb : (b == 59) = false := by simpa using hb
        have ht : tp = false := by rw [HTP.out]; exact decide_eq_false (fun h => hb h.2.1)
        have HT := Aside0.mk ht
        clear ht hs hb
        go_wp2
        go_meet
        case rel => exact ⟨by rw [HT.out], ⟨H1.out⟩⟩
    · have ts : (st == 10) = false := by simpa using hs
      have ht : tp = false := by rw [HTP.out]; exact decide_eq_false (fun h => hs h.1)
      have HT := Aside0.mk ht
      clear ht hs
      go_wp2
      go_meet
      case rel => exact ⟨by rw [HT.out], ⟨H1.out⟩⟩
  case rest =>
    obtain ⟨rfl, hcut⟩ := hcut
    clear H1
    have H2 := Aside0.mk hcut.out
    clear hcut
    obtain ⟨w2, hw2⟩ : ∃ w_, w_ = wc := ⟨_, rfl⟩
    rw [← hw2] at H2 ⊢
    clear hw2
    go_upto_if 137 with (fail)
    go_cut [] from 137 to 139 (fun wc => Aside0 (MV B w0 wc gm gq n D T ⟨ps, da, pt, cnt, c2, st⟩ vd vp ve))
    case first =>
      cases htp : tp with
      | true =>
        have hk : st = 10 ∧ b = 59 ∧ cmd = 2147483647 := of_decide_eq_true (HTP.out.symm.trans htp)
        have HCC := Aside0.mk (show c2 = pnum da cmd by rw [HC2.out]; unfold sputc; rw [if_pos hk])
        clear hk htp
        go_wp2_with fail
        refine (number_ B w0 w2 gm gq n T D ⟨ps, da, pt, cnt, cmd, st⟩ vd vp ve H2.out HBG.out).mono ?_
        rintro e w3 ⟨rfl, h3⟩
        have H3 := Aside0.mk h3
        clear h3
        go_wp2
        go_meet
        case rel => exact ⟨by rw [HCC.out]; exact H3.out⟩
      | false =>
        have hk : ¬ (st = 10 ∧ b = 59 ∧ cmd = 2147483647) := of_decide_eq_false (HTP.out.symm.trans htp)
        have HCC := Aside0.mk (show c2 = cmd by rw [HC2.out]; unfold sputc; rw [if_neg hk])
        clear hk htp
        go_wp2
        go_meet
        case rel => exact ⟨by rw [HCC.out]; exact H2.out⟩
    case rest =>
      clear H2
      have H4 := Aside0.mk hcut.out
      clear hcut
      obtain ⟨w4, hw4⟩ : ∃ w_, w_ = wc := ⟨_, rfl⟩
      rw [← hw4] at H4 ⊢
      clear hw4
      obtain ⟨Ad, cd, hvd⟩ : ∃ A c, vd = .slice A da.length c := Kd.R_slice H4.out.rd
      have hwl : wrap64 (da.length : Int) = (da.length : Int) := by have := (show da.length ≤ T from H4.out.ld); have := HBG.out; unfold wrap64; omega
      by_cases hD : D ≤ 0
      · have tD : decide (D ≤ 0) = true := decide_eq_true hD
        have HDD := Aside0.mk (show D ≤ 0 ∨ (da.length : Int) < D from .inl hD)
        clear hD hvd hwl
        go_wp2_with fail
        refine start_ (n := 17) (S := (fun w' => w'.cell? ⟨gm, 1, none⟩ = some (.int .i64 D))) (ds := []) #[false, false, false, false, false, false, false, false, false, false, false, false, false, false, false, false, false] (by kernel_rfl) rfl rfl H4.out.c1 (fun hHeld => ?_)
        refine with_tabW u25_tab u25_bits (fun HT_ HW_ => ?_)
        have H5d := Aside0.mk (show MV B w0 w4.drew gm gq n D T ⟨ps, da, pt, cnt, c2, st⟩ vd vp ve from H4.out.drew)
        clear H4
        generalize w4.drew = w5d at H5d hHeld ⊢
        refine pure_ (i := 0) (N := some 140) (v := ?_) (a' := ?_) (zF 17 1) rfl rfl (any_of HT_.out (by kernel_rfl)) (fun _ _ _ h => h) (Or.inl ⟨by rfl, ?_⟩) ?_ ?_
        rotate_left; (intro w'; go_simp; with_reducible rfl); rotate_left; (simp only [Act.put, zA, zZ, zS, i64_w, i32_w]; rfl)
        refine pure_ (i := 1) (N := some 141) (v := ?_) (a' := ?_) (zF 17 3) rfl rfl (any_of HT_.out (by kernel_rfl)) (fun _ _ _ h => h) (Or.inl ⟨by rfl, ?_⟩) ?_ ?_
        rotate_left; (intro w'; go_simp; with_reducible rfl); rotate_left; (simp only [Act.put, zA, zZ, zS, i64_w, i32_w]; rfl)
        refine pure_ (i := 2) (N := some 142) (v := ?_) (a' := ?_) (zF 17 7) rfl rfl (any_of HT_.out (by kernel_rfl)) (fun _ _ _ h => h) (Or.inl ⟨by rfl, ?_⟩) ?_ ?_
        rotate_left; (intro w'; go_simp; with_reducible rfl); rotate_left; (simp only [Act.put, zA, zZ, zS, i64_w, i32_w]; rfl)
        refine take_ (i := 3) (N := some 143) (v := ?_) (a' := ?_) (zF 17 15) rfl rfl (take_ofW HT_.out HW_.out (by kernel_rfl)) (fun _ _ _ h => h) (Or.inl ⟨by rfl, ?_⟩) hHeld ?_ ?_
        rotate_left; (rintro w' s0; go_simp; with_reducible rfl); rotate_left; (simp only [Act.put, zA, zZ, zS, i64_w, i32_w]; rfl)
        refine pure_ (i := 4) (N := some 144) (v := ?_) (a' := ?_) (zF 17 31) rfl rfl (any_of HT_.out (by kernel_rfl)) (fun _ _ _ h => h) (Or.inl ⟨by rfl, ?_⟩) ?_ ?_
        rotate_left; (intro w'; go_simp; with_reducible rfl); rotate_left; (simp only [Act.put, zA, zZ, zS, i64_w, i32_w]; rfl)
        refine pure_ (i := 5) (N := some 145) (v := ?_) (a' := ?_) (zF 17 63) rfl rfl (any_of HT_.out (by kernel_rfl)) (fun _ _ _ h => h) (Or.inl ⟨by rfl, ?_⟩) ?_ ?_
        rotate_left; (intro w'; go_simp; with_reducible rfl); rotate_left; (simp only [Act.put, zA, zZ, zS, i64_w, i32_w]; rfl)
        refine pure_ (i := 6) (N := some 146) (v := undef) (a' := ?_) (zF 17 127) rfl rfl (any_of HT_.out (by kernel_rfl)) (fun _ _ _ h => h) (Or.inr ⟨by rfl, rfl⟩) ?_ ?_
        rotate_left
        · simp only [Act.put, zA, zZ, zS, i64_w, i32_w]
          rfl
        refine pure_ (i := 7) (N := some 147) (v := undef) (a' := ?_) (zF 17 255) rfl rfl (any_of HT_.out (by kernel_rfl)) (fun _ _ _ h => h) (Or.inr ⟨by rfl, rfl⟩) ?_ ?_
        rotate_left
        · simp only [Act.put, zA, zZ, zS, i64_w, i32_w]
          rfl
        refine pure_ (i := 8) (N := some 148) (v := undef) (a' := ?_) (zF 17 511) rfl rfl (any_of HT_.out (by kernel_rfl)) (fun _ _ _ h => h) (Or.inr ⟨by rfl, rfl⟩) ?_ ?_
        rotate_left
        · simp only [Act.put, zA, zZ, zS, i64_w, i32_w]
          rfl
        refine pure_ (i := 9) (N := some 149) (v := undef) (a' := ?_) (zF 17 1023) rfl rfl (any_of HT_.out (by kernel_rfl)) (fun _ _ _ h => h) (Or.inr ⟨by rfl, rfl⟩) ?_ ?_
        rotate_left
        · simp only [Act.put, zA, zZ, zS, i64_w, i32_w]
          rfl
        refine pure_ (i := 10) (N := some 150) (v := undef) (a' := ?_) (zF 17 2047) rfl rfl (any_of HT_.out (by kernel_rfl)) (fun _ _ _ h => h) (Or.inr ⟨by rfl, rfl⟩) ?_ ?_
        rotate_left
        · simp only [Act.put, zA, zZ, zS, i64_w, i32_w]
          rfl
        refine pure_ (i := 11) (N := some 151) (v := undef) (a' := ?_) (zF 17 4095) rfl rfl (any_of HT_.out (by kernel_rfl)) (fun _ _ _ h => h) (Or.inr ⟨by rfl, rfl⟩) ?_ ?_
        rotate_left
        · simp only [Act.put, zA, zZ, zS, i64_w, i32_w]
          rfl
        refine pure_ (i := 12) (N := some 152) (v := undef) (a' := ?_) (zF 17 8191) rfl rfl (any_of HT_.out (by kernel_rfl)) (fun _ _ _ h => h) (Or.inr ⟨by rfl, rfl⟩) ?_ ?_
        rotate_left
        · simp only [Act.put, zA, zZ, zS, i64_w, i32_w]
          rfl
        refine pure_ (i := 13) (N := some 153) (v := undef) (a' := ?_) (zF 17 16383) rfl rfl (any_of HT_.out (by kernel_rfl)) (fun _ _ _ h => h) (Or.inr ⟨by rfl, rfl⟩) ?_ ?_
        rotate_left
        · simp only [Act.put, zA, zZ, zS, i64_w, i32_w]
          rfl
        refine pure_ (i := 14) (N := some 154) (v := undef) (a' := ?_) (zF 17 32767) rfl rfl (any_of HT_.out (by kernel_rfl)) (fun _ _ _ h => h) (Or.inr ⟨by rfl, rfl⟩) ?_ ?_
        rotate_left
        · simp only [Act.put, zA, zZ, zS, i64_w, i32_w]
          rfl
        refine pure_ (i := 15) (N := some 155) (v := undef) (a' := ?_) (zF 17 65535) rfl rfl (any_of HT_.out (by kernel_rfl)) (fun _ _ _ h => h) (Or.inr ⟨by rfl, rfl⟩) ?_ ?_
        rotate_left
        · simp only [Act.put, zA, zZ, zS, i64_w, i32_w]
          rfl
        refine pure_ (i := 16) (N := some 156) (v := ?_) (a' := ?_) (zF 17 131071) rfl rfl (any_of HT_.out (by kernel_rfl)) (fun _ _ _ h => h) (Or.inl ⟨by rfl, ?_⟩) ?_ ?_
        rotate_left; (intro w'; go_simp; with_reducible rfl); rotate_left; (simp only [Act.put, zA, zZ, zS, i64_w, i32_w]; rfl)
        refine done_ (done_of HT_.out (by kernel_rfl)) ?_
        clear hHeld
        go_upto_region 26 with (fail)
        have HRD := Aside0.mk (show Kd.R (Kd.int .u8) 5 w5d B (fun _ => True) vd da from H5d.out.rd)
        have HDL := Aside0.mk (show da.length ≤ T from H5d.out.ld)
        have c6 := H5d.out.c6
        have HX6 := Aside0.mk (fun (w_ : World) (hg : World.grownBy w5d w_ vd.ownBlock) => (H5d.out.cell_grown hg (H5d.out.fm rfl (by decide) HRD.out) 6).trans (show _ = some vd from rfl))
        have HY6 := Aside0.mk (fun (w_ : World) (hg : World.grownBy w5d w_ vd.ownBlock) => H5d.out.free_grown hg (H5d.out.fm rfl (by decide) HRD.out) 6)
        go_wp2_with (first | ((with_reducible refine gate_builtin (b := .append) (xs := #[.tmp 161, .tmp 163]) rfl ?_); at_builtin; refine Kd.R_append (Kd.int .u8) (w0 := _) B rfl (.tmp 161) (.tmp 163) 27 5 (.int .u8 0) 1 rfl Tryd.underlying27 info5 rfl (by decide) (by omega) vd da b [.int .u8 b] (fun _ => True) (fun _ => False) rfl rfl ?aP (fun _ hk => hk.elim) ?aF ?aO (Below.refl _ _) ?aS ?aL ?_; (case aP => exact rfl); (case aF => exact (fun _ _ => trivial)); (case aO => exact HRD.out); (case aS => exact H5d.out.lt); (case aL => have := HDL.out; have := HBG.out; omega); intro v1 w9 ho hb hg hat; have HG := Aside0.mk hg; have HO := Aside0.mk ho; have HBB := Aside0.mk hb; have HAT := Aside0.mk hat; clear ho hb hg hat; obtain ⟨A1, c1, e1⟩ : ∃ A c, v1 = .slice A (da.length + 1) c := slice_snoc HO.out; subst e1; have k6 := HX6.out w9 HG.out; have j6 := HY6.out w9 HG.out) | fail)
        go_end0
        refine ⟨rfl, .slice A1 (da.length + 1) c1, ?_⟩
        have h_ := H5d.out.put_d HO.out HBB.out HG.out HAT.out
        unfold sput
        rw [if_pos HDD.out, ← HC2.out]
        exact h_
      · have tD : decide (D ≤ 0) = false := decide_eq_false hD
        obtain ⟨ln, hln⟩ : ∃ ln, ln = da.length := ⟨_, rfl⟩
        rw [← hln] at hvd
        have HLN := Aside0.mk hln
        have HVD := Aside0.mk hvd
        by_cases hl : (ln : Int) < D
        · have tl : decide ((ln : Int) < D) = true := decide_eq_true hl
          have HDD := Aside0.mk (show D ≤ 0 ∨ (da.length : Int) < D from .inr (by rw [← hln]; exact hl))
          have hwl2 : wrap64 (ln : Int) = (ln : Int) := by rw [hln]; exact hwl
          clear hD hwl hvd hln
          go_wp2_with fail
          refine start_ (n := 17) (S := (fun w' => w'.cell? ⟨gm, 1, none⟩ = some (.int .i64 D) ∧ w'.cell? ⟨gm, 6, none⟩ = some (.slice Ad ln cd))) (ds := []) #[false, false, false, false, false, false, false, false, false, false, false, false, false, false, false, false, false] (by kernel_rfl) rfl rfl ⟨H4.out.c1, H4.out.c6.trans (by rw [HVD.out])⟩ (fun hHeld => ?_)
          refine with_tabW u25_tab u25_bits (fun HT_ HW_ => ?_)
          have H5d := Aside0.mk (show MV B w0 w4.drew gm gq n D T ⟨ps, da, pt, cnt, c2, st⟩ vd vp ve from H4.out.drew)
          clear H4
          generalize w4.drew = w5d at H5d hHeld ⊢
          refine pure_ (i := 0) (N := some 140) (v := ?_) (a' := ?_) (zF 17 1) rfl rfl (any_of HT_.out (by kernel_rfl)) (fun _ _ _ h => h) (Or.inl ⟨by rfl, ?_⟩) ?_ ?_
          rotate_left; (intro w'; go_simp; with_reducible rfl); rotate_left; (simp only [Act.put, zA, zZ, zS, i64_w, i32_w]; rfl)
          refine pure_ (i := 1) (N := some 141) (v := ?_) (a' := ?_) (zF 17 3) rfl rfl (any_of HT_.out (by kernel_rfl)) (fun _ _ _ h => h) (Or.inl ⟨by rfl, ?_⟩) ?_ ?_
          rotate_left; (intro w'; go_simp; with_reducible rfl); rotate_left; (simp only [Act.put, zA, zZ, zS, i64_w, i32_w]; rfl)
          refine pure_ (i := 2) (N := some 142) (v := ?_) (a' := ?_) (zF 17 7) rfl rfl (any_of HT_.out (by kernel_rfl)) (fun _ _ _ h => h) (Or.inl ⟨by rfl, ?_⟩) ?_ ?_
          rotate_left; (intro w'; go_simp; with_reducible rfl); rotate_left; (simp only [Act.put, zA, zZ, zS, i64_w, i32_w]; rfl)
          refine take_ (i := 3) (N := some 143) (v := ?_) (a' := ?_) (zF 17 15) rfl rfl (take_ofW HT_.out HW_.out (by kernel_rfl)) (fun _ _ _ h => h) (Or.inl ⟨by rfl, ?_⟩) hHeld ?_ ?_
          rotate_left; (rintro w' ⟨s0, s1⟩; go_simp; with_reducible rfl); rotate_left; (simp only [Act.put, zA, zZ, zS, i64_w, i32_w]; rfl)
          refine pure_ (i := 4) (N := some 144) (v := ?_) (a' := ?_) (zF 17 31) rfl rfl (any_of HT_.out (by kernel_rfl)) (fun _ _ _ h => h) (Or.inl ⟨by rfl, ?_⟩) ?_ ?_
          rotate_left; (intro w'; go_simp; with_reducible rfl); rotate_left; (simp only [Act.put, zA, zZ, zS, i64_w, i32_w]; rfl)
          refine pure_ (i := 5) (N := some 145) (v := ?_) (a' := ?_) (zF 17 63) rfl rfl (any_of HT_.out (by kernel_rfl)) (fun _ _ _ h => h) (Or.inl ⟨by rfl, ?_⟩) ?_ ?_
          rotate_left; (intro w'; go_simp; with_reducible rfl); rotate_left; (simp only [Act.put, zA, zZ, zS, i64_w, i32_w]; rfl)
          refine pure_ (i := 6) (N := some 146) (v := ?_) (a' := ?_) (zF 17 127) rfl rfl (any_of HT_.out (by kernel_rfl)) (fun _ _ _ h => h) (Or.inl ⟨by rfl, ?_⟩) ?_ ?_
          rotate_left; (intro w'; go_simp; with_reducible rfl); rotate_left; (simp only [Act.put, zA, zZ, zS, i64_w, i32_w]; rfl)
          refine pure_ (i := 7) (N := some 147) (v := ?_) (a' := ?_) (zF 17 255) rfl rfl (any_of HT_.out (by kernel_rfl)) (fun _ _ _ h => h) (Or.inl ⟨by rfl, ?_⟩) ?_ ?_
          rotate_left; (intro w'; go_simp; with_reducible rfl); rotate_left; (simp only [Act.put, zA, zZ, zS, i64_w, i32_w]; rfl)
          refine pure_ (i := 8) (N := some 148) (v := ?_) (a' := ?_) (zF 17 511) rfl rfl (any_of HT_.out (by kernel_rfl)) (fun _ _ _ h => h) (Or.inl ⟨by rfl, ?_⟩) ?_ ?_
          rotate_left; (intro w'; go_simp; with_reducible rfl); rotate_left; (simp only [Act.put, zA, zZ, zS, i64_w, i32_w]; rfl)
          refine pure_ (i := 11) (N := some 151) (v := ?_) (a' := ?_) (zF 17 2559) rfl rfl (any_of HT_.out (by kernel_rfl)) (fun _ _ _ h => h) (Or.inl ⟨by rfl, ?_⟩) ?_ ?_
          rotate_left; (intro w'; go_simp; with_reducible rfl); rotate_left; (simp only [Act.put, zA, zZ, zS, i64_w, i32_w]; rfl)
          refine pure_ (i := 12) (N := some 152) (v := ?_) (a' := ?_) (zF 17 6655) rfl rfl (any_of HT_.out (by kernel_rfl)) (fun _ _ _ h => h) (Or.inl ⟨by rfl, ?_⟩) ?_ ?_
          rotate_left; (intro w'; go_simp; with_reducible rfl); rotate_left; (simp only [Act.put, zA, zZ, zS, i64_w, i32_w]; rfl)
          refine pure_ (i := 13) (N := some 153) (v := ?_) (a' := ?_) (zF 17 14847) rfl rfl (any_of HT_.out (by kernel_rfl)) (fun _ _ _ h => h) (Or.inl ⟨by rfl, ?_⟩) ?_ ?_
          rotate_left; (intro w'; go_simp; with_reducible rfl); rotate_left; (simp only [Act.put, zA, zZ, zS, i64_w, i32_w]; rfl)
          refine take_ (i := 9) (N := some 149) (v := ?_) (a' := ?_) (zF 17 15359) rfl rfl (take_ofW HT_.out HW_.out (by kernel_rfl)) (fun _ _ _ h => h) (Or.inl ⟨by rfl, ?_⟩) hHeld ?_ ?_
          rotate_left; (rintro w' ⟨s0, s1⟩; go_simp; with_reducible rfl); rotate_left; (simp only [Act.put, zA, zZ, zS, i64_w, i32_w]; rfl)
          refine pure_ (i := 10) (N := some 150) (v := ?_) (a' := ?_) (zF 17 16383) rfl rfl (any_of HT_.out (by kernel_rfl)) (fun _ _ _ h => h) (Or.inl ⟨by rfl, ?_⟩) ?_ ?_
          rotate_left; (intro w'; go_simp; with_reducible rfl); rotate_left; (simp only [Act.put, zA, zZ, zS, i64_w, i32_w]; rfl)
          refine take_ (i := 14) (N := some 154) (v := ?_) (a' := ?_) (zF 17 32767) rfl rfl (take_ofW HT_.out HW_.out (by kernel_rfl)) (fun _ _ _ h => h) (Or.inl ⟨by rfl, ?_⟩) hHeld ?_ ?_
          rotate_left; (rintro w' ⟨s0, s1⟩; go_simp; with_reducible rfl); rotate_left; (simp only [Act.put, zA, zZ, zS, i64_w, i32_w]; rfl)
          refine pure_ (i := 15) (N := some 155) (v := ?_) (a' := ?_) (zF 17 65535) rfl rfl (any_of HT_.out (by kernel_rfl)) (fun _ _ _ h => h) (Or.inl ⟨by rfl, ?_⟩) ?_ ?_
          rotate_left; (intro w'; go_simp; with_reducible rfl); rotate_left; (simp only [Act.put, zA, zZ, zS, i64_w, i32_w]; rfl)
          refine pure_ (i := 16) (N := some 156) (v := ?_) (a' := ?_) (zF 17 131071) rfl rfl (any_of HT_.out (by kernel_rfl)) (fun _ _ _ h => h) (Or.inl ⟨by rfl, ?_⟩) ?_ ?_
          rotate_left; (intro w'; go_simp; with_reducible rfl); rotate_left; (simp only [Act.put, zA, zZ, zS, i64_w, i32_w]; rfl)
          refine done_ (done_of HT_.out (by kernel_rfl)) ?_
          clear hHeld
          go_upto_region 26 with (fail)
          have HRD := Aside0.mk (show Kd.R (Kd.int .u8) 5 w5d B (fun _ => True) vd da from H5d.out.rd)
          have HDL := Aside0.mk (show da.length ≤ T from H5d.out.ld)
          have c6 := H5d.out.c6
          have HX6 := Aside0.mk (fun (w_ : World) (hg : World.grownBy w5d w_ vd.ownBlock) => (H5d.out.cell_grown hg (H5d.out.fm rfl (by decide) HRD.out) 6).trans (show _ = some vd from rfl))
          have HY6 := Aside0.mk (fun (w_ : World) (hg : World.grownBy w5d w_ vd.ownBlock) => H5d.out.free_grown hg (H5d.out.fm rfl (by decide) HRD.out) 6)
          go_wp2_with (first | ((with_reducible refine gate_builtin (b := .append) (xs := #[.tmp 161, .tmp 163]) rfl ?_); at_builtin; refine Kd.R_append (Kd.int .u8) (w0 := _) B rfl (.tmp 161) (.tmp 163) 27 5 (.int .u8 0) 1 rfl Tryd.underlying27 info5 rfl (by decide) (by omega) vd da b [.int .u8 b] (fun _ => True) (fun _ => False) rfl rfl ?aP (fun _ hk => hk.elim) ?aF ?aO (Below.refl _ _) ?aS ?aL ?_; (case aP => exact rfl); (case aF => exact (fun _ _ => trivial)); (case aO => exact HRD.out); (case aS => exact H5d.out.lt); (case aL => have := HDL.out; have := HBG.out; omega); intro v1 w9 ho hb hg hat; have HG := Aside0.mk hg; have HO := Aside0.mk ho; have HBB := Aside0.mk hb; have HAT := Aside0.mk hat; clear ho hb hg hat; obtain ⟨A1, c1, e1⟩ : ∃ A c, v1 = .slice A (da.length + 1) c := slice_snoc HO.out; subst e1; have k6 := HX6.out w9 HG.out; have j6 := HY6.out w9 HG.out) | fail)
          go_end0
          refine ⟨rfl, .slice A1 (da.length + 1) c1, ?_⟩
          have h_ := H5d.out.put_d HO.out HBB.out HG.out HAT.out
          unfold sput
          rw [if_pos HDD.out, ← HC2.out]
          exact h_
        · have tl : decide ((ln : Int) < D) = false := decide_eq_false hl
          have HDD := Aside0.mk (show ¬ (D ≤ 0 ∨ (da.length : Int) < D) from by rw [← hln]; exact fun h => h.elim hD hl)
          have hwl2 : wrap64 (ln : Int) = (ln : Int) := by rw [hln]; exact hwl
          clear hD hwl hvd hln
          go_wp2_with fail
          refine start_ (n := 17) (S := (fun w' => w'.cell? ⟨gm, 1, none⟩ = some (.int .i64 D) ∧ w'.cell? ⟨gm, 6, none⟩ = some (.slice Ad ln cd))) (ds := []) #[false, false, false, false, false, false, false, false, false, false, false, false, false, false, false, false, false] (by kernel_rfl) rfl rfl ⟨H4.out.c1, H4.out.c6.trans (by rw [HVD.out])⟩ (fun hHeld => ?_)
          refine with_tabW u25_tab u25_bits (fun HT_ HW_ => ?_)
          have H5d := Aside0.mk (show MV B w0 w4.drew gm gq n D T ⟨ps, da, pt, cnt, c2, st⟩ vd vp ve from H4.out.drew)
          clear H4
          generalize w4.drew = w5d at H5d hHeld ⊢
          refine pure_ (i := 0) (N := some 140) (v := ?_) (a' := ?_) (zF 17 1) rfl rfl (any_of HT_.out (by kernel_rfl)) (fun _ _ _ h => h) (Or.inl ⟨by rfl, ?_⟩) ?_ ?_
          rotate_left; (intro w'; go_simp; with_reducible rfl); rotate_left; (simp only [Act.put, zA, zZ, zS, i64_w, i32_w]; rfl)
          refine pure_ (i := 1) (N := some 141) (v := ?_) (a' := ?_) (zF 17 3) rfl rfl (any_of HT_.out (by kernel_rfl)) (fun _ _ _ h => h) (Or.inl ⟨by rfl, ?_⟩) ?_ ?_
          rotate_left; (intro w'; go_simp; with_reducible rfl); rotate_left; (simp only [Act.put, zA, zZ, zS, i64_w, i32_w]; rfl)
          refine pure_ (i := 2) (N := some 142) (v := ?_) (a' := ?_) (zF 17 7) rfl rfl (any_of HT_.out (by kernel_rfl)) (fun _ _ _ h => h) (Or.inl ⟨by rfl, ?_⟩) ?_ ?_
          rotate_left; (intro w'; go_simp; with_reducible rfl); rotate_left; (simp only [Act.put, zA, zZ, zS, i64_w, i32_w]; rfl)
          refine take_ (i := 3) (N := some 143) (v := ?_) (a' := ?_) (zF 17 15) rfl rfl (take_ofW HT_.out HW_.out (by kernel_rfl)) (fun _ _ _ h => h) (Or.inl ⟨by rfl, ?_⟩) hHeld ?_ ?_
          rotate_left; (rintro w' ⟨s0, s1⟩; go_simp; with_reducible rfl); rotate_left; (simp only [Act.put, zA, zZ, zS, i64_w, i32_w]; rfl)
          refine pure_ (i := 4) (N := some 144) (v := ?_) (a' := ?_) (zF 17 31) rfl rfl (any_of HT_.out (by kernel_rfl)) (fun _ _ _ h => h) (Or.inl ⟨by rfl, ?_⟩) ?_ ?_
          rotate_left; (intro w'; go_simp; with_reducible rfl); rotate_left; (simp only [Act.put, zA, zZ, zS, i64_w, i32_w]; rfl)
          refine pure_ (i := 5) (N := some 145) (v := ?_) (a' := ?_) (zF 17 63) rfl rfl (any_of HT_.out (by kernel_rfl)) (fun _ _ _ h => h) (Or.inl ⟨by rfl, ?_⟩) ?_ ?_
          rotate_left; (intro w'; go_simp; with_reducible rfl); rotate_left; (simp only [Act.put, zA, zZ, zS, i64_w, i32_w]; rfl)
          refine pure_ (i := 6) (N := some 146) (v := ?_) (a' := ?_) (zF 17 127) rfl rfl (any_of HT_.out (by kernel_rfl)) (fun _ _ _ h => h) (Or.inl ⟨by rfl, ?_⟩) ?_ ?_
          rotate_left; (intro w'; go_simp; with_reducible rfl); rotate_left; (simp only [Act.put, zA, zZ, zS, i64_w, i32_w]; rfl)
          refine pure_ (i := 7) (N := some 147) (v := ?_) (a' := ?_) (zF 17 255) rfl rfl (any_of HT_.out (by kernel_rfl)) (fun _ _ _ h => h) (Or.inl ⟨by rfl, ?_⟩) ?_ ?_
          rotate_left; (intro w'; go_simp; with_reducible rfl); rotate_left; (simp only [Act.put, zA, zZ, zS, i64_w, i32_w]; rfl)
          refine pure_ (i := 8) (N := some 148) (v := ?_) (a' := ?_) (zF 17 511) rfl rfl (any_of HT_.out (by kernel_rfl)) (fun _ _ _ h => h) (Or.inl ⟨by rfl, ?_⟩) ?_ ?_
          rotate_left; (intro w'; go_simp; with_reducible rfl); rotate_left; (simp only [Act.put, zA, zZ, zS, i64_w, i32_w]; rfl)
          refine pure_ (i := 11) (N := some 151) (v := ?_) (a' := ?_) (zF 17 2559) rfl rfl (any_of HT_.out (by kernel_rfl)) (fun _ _ _ h => h) (Or.inl ⟨by rfl, ?_⟩) ?_ ?_
          rotate_left; (intro w'; go_simp; with_reducible rfl); rotate_left; (simp only [Act.put, zA, zZ, zS, i64_w, i32_w]; rfl)
          refine pure_ (i := 12) (N := some 152) (v := ?_) (a' := ?_) (zF 17 6655) rfl rfl (any_of HT_.out (by kernel_rfl)) (fun _ _ _ h => h) (Or.inl ⟨by rfl, ?_⟩) ?_ ?_
          rotate_left; (intro w'; go_simp; with_reducible rfl); rotate_left; (simp only [Act.put, zA, zZ, zS, i64_w, i32_w]; rfl)
          refine pure_ (i := 13) (N := some 153) (v := ?_) (a' := ?_) (zF 17 14847) rfl rfl (any_of HT_.out (by kernel_rfl)) (fun _ _ _ h => h) (Or.inl ⟨by rfl, ?_⟩) ?_ ?_
          rotate_left; (intro w'; go_simp; with_reducible rfl); rotate_left; (simp only [Act.put, zA, zZ, zS, i64_w, i32_w]; rfl)
          refine take_ (i := 9) (N := some 149) (v := ?_) (a' := ?_) (zF 17 15359) rfl rfl (take_ofW HT_.out HW_.out (by kernel_rfl)) (fun _ _ _ h => h) (Or.inl ⟨by rfl, ?_⟩) hHeld ?_ ?_
          rotate_left; (rintro w' ⟨s0, s1⟩; go_simp; with_reducible rfl); rotate_left; (simp only [Act.put, zA, zZ, zS, i64_w, i32_w]; rfl)
          refine pure_ (i := 10) (N := some 150) (v := ?_) (a' := ?_) (zF 17 16383) rfl rfl (any_of HT_.out (by kernel_rfl)) (fun _ _ _ h => h) (Or.inl ⟨by rfl, ?_⟩) ?_ ?_
          rotate_left; (intro w'; go_simp; with_reducible rfl); rotate_left; (simp only [Act.put, zA, zZ, zS, i64_w, i32_w]; rfl)
          refine take_ (i := 14) (N := some 154) (v := ?_) (a' := ?_) (zF 17 32767) rfl rfl (take_ofW HT_.out HW_.out (by kernel_rfl)) (fun _ _ _ h => h) (Or.inl ⟨by rfl, ?_⟩) hHeld ?_ ?_
          rotate_left; (rintro w' ⟨s0, s1⟩; go_simp; with_reducible rfl); rotate_left; (simp only [Act.put, zA, zZ, zS, i64_w, i32_w]; rfl)
          refine pure_ (i := 15) (N := some 155) (v := ?_) (a' := ?_) (zF 17 65535) rfl rfl (any_of HT_.out (by kernel_rfl)) (fun _ _ _ h => h) (Or.inl ⟨by rfl, ?_⟩) ?_ ?_
          rotate_left; (intro w'; go_simp; with_reducible rfl); rotate_left; (simp only [Act.put, zA, zZ, zS, i64_w, i32_w]; rfl)
          refine pure_ (i := 16) (N := some 156) (v := ?_) (a' := ?_) (zF 17 131071) rfl rfl (any_of HT_.out (by kernel_rfl)) (fun _ _ _ h => h) (Or.inl ⟨by rfl, ?_⟩) ?_ ?_
          rotate_left; (intro w'; go_simp; with_reducible rfl); rotate_left; (simp only [Act.put, zA, zZ, zS, i64_w, i32_w]; rfl)
          refine done_ (done_of HT_.out (by kernel_rfl)) ?_
          clear hHeld
          go_wp2
          go_end0
          refine ⟨rfl, vd, ?_⟩
          have h_ := H5d.out.more (Nat.le_succ T)
          unfold sput
          rw [if_neg HDD.out, ← HC2.out]
          exact h_
end Go.Proofs.YtmpmfdghdaofhaaDoor.Sp

namespace Go.Proofs.YtmpmfdghdaofhaaDoor.Sp
set_option linter.unusedVariables false
set_option linter.unusedSimpArgs false
open Go Go.RowKit Go.Proofs.YtmpmfdghdaofhaaDoor.Pm Go.Proofs.YtmpmfdghdaofhaaDoorW.PrintWords Go.Proofs.YtmpmfdghdaofhaaDoorW.PrintLast Go.Proofs.YtmpmfdghdaofhaaDoorW.PrintMore
theorem info2 : (Tryd.prog.info? 2).map (fun i => (i.zero, i.size, i.bytes)) = some (some (.int .i64 0), 1, 8) := by kernel_rfl
theorem C_cells {W : World} {gq t : Nat} {l : List Int} (h : W.heap[gq]? = some (.cells (cellsP l) t (0, 0))) (m : Nat) (hm : m ≤ l.length) (hb : m ≤ 1000000) : (Kd.int .i64).C W (some ⟨gq, 0, none⟩) m (l.take m) := by
  refine ⟨by rw [List.length_take]; omega, by omega, fun _ => ⟨_, rfl, fun j p hp => ⟨[.int .i64 p], rfl, rfl, fun i u hu => ?_⟩⟩⟩
  have hj : j < (l.take m).length := by
    rcases Nat.lt_or_ge j (l.take m).length with h1 | h1
    · exact h1
    · rw [List.getElem?_eq_none h1] at hp
      cases hp
  have hjl : j < l.length := by rw [List.length_take] at hj; omega
  have hp2 : l[j]? = some p := by
    rw [List.getElem?_take, if_pos (by rw [List.length_take] at hj; omega)] at hp
    exact hp
  cases i with
  | zero =>
    simp only [List.getElem?_cons_zero, Option.some.injEq] at hu
    subst hu
    have e : (⟨gq, 0, none⟩ : Addr).add (j * (Kd.int .i64).sz + 0) = ⟨gq, j, none⟩ := by
      show (⟨gq, 0, none⟩ : Addr).add (j * 1 + 0) = ⟨gq, j, none⟩
      simp [Addr.add]
      intro h_
      exact h_.symm
    rw [e, blk_cell h j]
    unfold cellsP
    rw [List.getElem?_toArray, List.getElem?_map, hp2]
    rfl
  | succ i => simp at hu
def k1T : Bool × List (List Nat × List Nat) := (true, [([], []), ([0], [0]), ([1], [1]), ([2], [2]), ([], []), ([4], [4]), ([5], [5]), ([6], [6]), ([3, 7], [3, 7]), ([8], [8]), ([9, 9, 0, 1, 2, 3, 4, 5, 6, 7, 8, 9], [9])])
def k1B : List Nat := [0, 1, 3, 7, 0, 16, 48, 112, 255, 511, 1023]
theorem k1_tab : rtab .any (opsOf Tryd.f70 1) = k1T := by kernel_rfl
theorem k1_bits : waitsOk k1T.2 k1B = true := by kernel_rfl
set_option maxHeartbeats 8000000 in
set_option maxRecDepth 100000 in
theorem counted_ (B : Nat) (w0 w : World) (gm gq n T : Nat) (D : Int) (s : SM) (vd vp : Value) (ve : VE) (h : MV B w0 w gm gq n D T s vd vp ve) (hc : s.cnt ≤ n ∧ s.cnt ≤ 1000000) :
    Calls Tryd.prog 70 #[.pointer (some ⟨gm, 0, none⟩)] w fun e w' => ∃ A k c, e = .returned (.slice A k c) ∧ Kd.R (Kd.int .i64) 2 w' w.heap.size (fun _ => True) (.slice A k c) (s.ps.take s.cnt) ∧ Below w.heap.size w w' := by
  have HC := Aside0.mk hc
  have d0 : (0 : Int) ≤ (s.cnt : Int) := by omega
  have d1 : (s.cnt : Int) ≤ (n : Int) := by omega
  have d2 : s.cnt ≤ n := hc.1
  go_enter Tryd.func70, Tryd.ntmps70
  go_wp2_with fail
  refine start_ (n := 11) (S := (fun w' => w'.cell? ⟨gm, 5, none⟩ = some (.slice (some ⟨gq, 0, none⟩) n n) ∧ w'.cell? ⟨gm, 3, none⟩ = some (.int .i64 (s.cnt : Int)))) (ds := []) #[false, false, false, false, false, false, false, false, false, false, false] (by kernel_rfl) rfl rfl ⟨h.c5, h.c3⟩ (fun hHeld => ?_)
  refine with_tabW k1_tab k1_bits (fun HT_ HW_ => ?_)
  have H2 := Aside0.mk (show MV B w0 w.drew gm gq n D T s vd vp ve from h.drew)
  have HBD := Aside0.mk (show Below w.heap.size w w.drew from (Below.refl _ w).drew)
  have HSZ := Aside0.mk (show w.heap.size ≤ w.drew.heap.size from Nat.le_refl _)
  generalize w.drew = wd at H2 HBD HSZ hHeld ⊢
  refine pure_ (i := 0) (N := some 3) (v := ?_) (a' := ?_) (zF 11 1) rfl rfl (any_of HT_.out (by kernel_rfl)) (fun _ _ _ h => h) (Or.inl ⟨by rfl, ?_⟩) ?_ ?_
  rotate_left; (intro w'; go_simp; with_reducible rfl); rotate_left; (simp only [Act.put, zA, zZ, zS, i64_w, i32_w]; rfl)
  refine pure_ (i := 1) (N := some 4) (v := ?_) (a' := ?_) (zF 11 3) rfl rfl (any_of HT_.out (by kernel_rfl)) (fun _ _ _ h => h) (Or.inl ⟨by rfl, ?_⟩) ?_ ?_
  rotate_left; (intro w'; go_simp; with_reducible rfl); rotate_left; (simp only [Act.put, zA, zZ, zS, i64_w, i32_w]; rfl)
  refine pure_ (i := 2) (N := some 5) (v := ?_) (a' := ?_) (zF 11 7) rfl rfl (any_of HT_.out (by kernel_rfl)) (fun _ _ _ h => h) (Or.inl ⟨by rfl, ?_⟩) ?_ ?_
  rotate_left; (intro w'; go_simp; with_reducible rfl); rotate_left; (simp only [Act.put, zA, zZ, zS, i64_w, i32_w]; rfl)
  refine pure_ (i := 4) (N := some 7) (v := ?_) (a' := ?_) (zF 11 23) rfl rfl (any_of HT_.out (by kernel_rfl)) (fun _ _ _ h => h) (Or.inl ⟨by rfl, ?_⟩) ?_ ?_
  rotate_left; (intro w'; go_simp; with_reducible rfl); rotate_left; (simp only [Act.put, zA, zZ, zS, i64_w, i32_w]; rfl)
  refine pure_ (i := 5) (N := some 8) (v := ?_) (a' := ?_) (zF 11 55) rfl rfl (any_of HT_.out (by kernel_rfl)) (fun _ _ _ h => h) (Or.inl ⟨by rfl, ?_⟩) ?_ ?_
  rotate_left; (intro w'; go_simp; with_reducible rfl); rotate_left; (simp only [Act.put, zA, zZ, zS, i64_w, i32_w]; rfl)
  refine pure_ (i := 6) (N := some 9) (v := ?_) (a' := ?_) (zF 11 119) rfl rfl (any_of HT_.out (by kernel_rfl)) (fun _ _ _ h => h) (Or.inl ⟨by rfl, ?_⟩) ?_ ?_
  rotate_left; (intro w'; go_simp; with_reducible rfl); rotate_left; (simp only [Act.put, zA, zZ, zS, i64_w, i32_w]; rfl)
  refine take_ (i := 3) (N := some 6) (v := ?_) (a' := ?_) (zF 11 127) rfl rfl (take_ofW HT_.out HW_.out (by kernel_rfl)) (fun _ _ _ h => h) (Or.inl ⟨by rfl, ?_⟩) hHeld ?_ ?_
  rotate_left; (rintro w' ⟨s0, s1⟩; go_simp; with_reducible rfl); rotate_left; (simp only [Act.put, zA, zZ, zS, i64_w, i32_w]; rfl)
  refine take_ (i := 7) (N := some 10) (v := ?_) (a' := ?_) (zF 11 255) rfl rfl (take_ofW HT_.out HW_.out (by kernel_rfl)) (fun _ _ _ h => h) (Or.inl ⟨by rfl, ?_⟩) hHeld ?_ ?_
  rotate_left; (rintro w' ⟨s0, s1⟩; go_simp; with_reducible rfl); rotate_left; (simp only [Act.put, zA, zZ, zS, i64_w, i32_w]; rfl)
  refine pure_ (i := 8) (N := some 11) (v := ?_) (a' := ?_) (zF 11 511) rfl rfl (any_of HT_.out (by kernel_rfl)) (fun _ _ _ h => h) (Or.inl ⟨by rfl, ?_⟩) ?_ ?_
  rotate_left; (intro w'; go_simp; with_reducible rfl); rotate_left; (simp only [Act.put, zA, zZ, zS, i64_w, i32_w]; rfl)
  refine one_ (i := 9) (N := some 12) (zF 11 1023) rfl rfl (one_of HT_.out (by kernel_rfl)) (by decide) (fun K hK => ?_)
  refine Kd.R_append_rows_step (Kd.int .i64) (w0 := w) w.heap.size (by rfl) (.const (.slice none 0 0)) (.tmp 11) 35 2 (.int .i64 0) 8 rfl Tryd.underlying35 info2 rfl (by decide) (by omega) (.slice none 0 0) ([] : List Int) (s.ps.take s.cnt) (some ⟨gq, 0, none⟩) s.cnt n (fun _ => True) (fun _ => False) (by rfl) (by rfl) (Kd.R_nil _ _ _ _ _) (C_cells H2.out.bq s.cnt (by rw [H2.out.hn]; exact HC.out.1) HC.out.2) (fun _ _ h => h) (fun _ h => h.elim) (fun _ _ => trivial) HBD.out HSZ.out (by have := HC.out.2; show (0 + s.cnt) * 8 ≤ _; omega) ?_
  intro v1 w1 ho hb hg hat
  rw [List.nil_append] at ho
  obtain ⟨A1, c1, e1⟩ : ∃ A c, v1 = .slice A s.cnt c := (by obtain ⟨A, c, e⟩ := Kd.R_slice ho; exact ⟨A, c, by rw [e, List.length_take, Nat.min_eq_left (by rw [H2.out.hn]; exact HC.out.1)]⟩)
  subst e1
  have HO := Aside0.mk ho
  have HB1 := Aside0.mk hb
  have H3 := Aside0.mk ((h.on hb))
  clear ho hb hg hat
  refine hK.out _ _ ⟨H3.out.c5, H3.out.c3⟩ (fun hHeld => ?_)
  clear hK K
  refine norm_ (a' := ?_) ?_ ?_
  rotate_left
  · show Act.put _ (some 12) _ = _
    simp only [Act.put, zA, zZ, zS, i64_w, i32_w]
    rfl
  refine pure_ (i := 10) (N := some 2) (v := ?_) (a' := ?_) (zF 11 2047) rfl rfl (any_of HT_.out (by kernel_rfl)) (fun _ _ _ h => h) (Or.inl ⟨by rfl, ?_⟩) ?_ ?_
  rotate_left; (intro w'; go_simp; with_reducible rfl); rotate_left; (simp only [Act.put, zA, zZ, zS, i64_w, i32_w]; rfl)
  refine done_ (done_of HT_.out (by kernel_rfl)) ?_
  clear hHeld
  go_wp2
  go_ret
  exact ⟨_, _, _, rfl, HO.out, HB1.out⟩
end Go.Proofs.YtmpmfdghdaofhaaDoor.Sp
