/- Texts of this claim, joined; what isn't needed is left out (wip/slim.py). -/
import Derived.Test.YtmpmfdghdaofhaaDoorZH15
import Derived.Test.YtmpmfdghdaofhaaDoorZH16
import Derived.Deep.OwnRows
namespace Go.Proofs.YtmpmfdghdaofhaaDoor.Pm
set_option linter.unusedVariables false
set_option linter.unusedSimpArgs false
open Go Go.RowKit Go.Proofs.YtmpmfdghdaofhaaDoorW.PrintWords Go.Proofs.YtmpmfdghdaofhaaDoorW.PrintLast Go.Proofs.YtmpmfdghdaofhaaDoorW.PrintMore
def dt1T : Bool × List (List Nat × List Nat) := (true, [([], []), ([0], [0]), ([1], [1]), ([2], [2]), ([], []), ([4], [4]), ([5], [5]), ([6], [6]), ([3, 7], [3, 7]), ([8, 0, 1, 2, 3, 4, 5, 6, 7, 8], [8])])
def dt1B : List Nat := [0, 1, 3, 7, 0, 16, 48, 112, 255, 511]
theorem dt1_tab : rtab .any (opsOf Tryd.f36 1) = dt1T := by kernel_rfl
theorem dt1_bits : waitsOk dt1T.2 dt1B = true := by kernel_rfl
set_option maxHeartbeats 8000000 in
set_option maxRecDepth 100000 in
theorem data_ (hs : Nat → Value) (B : Nat) (w0 w : World) (g gp gd n m : Nat) (p : PM) (h : PV hs B w0 w g gp gd n m p) (hdl : p.dl ≤ m) :
    Calls Tryd.prog 36 #[.pointer (some ⟨g, 0, none⟩)] w fun e w' => e = .returned (.slice (some ⟨gd, 0, none⟩) p.dl m) ∧ Below w.heap.size w w' := by
  have H := Aside0.mk h
  have d0 : (0 : Int) ≤ (p.dl : Int) := by omega
  have d1 : (p.dl : Int) ≤ (m : Int) := by omega
  have d2 : p.dl ≤ m := hdl
  clear h hdl
  go_enter Tryd.func36, Tryd.ntmps36
  go_wp2_with fail
  refine start_ (n := 10) (S := (fun w' => w'.cell? ⟨g, 10, none⟩ = some (.slice (some ⟨gd, 0, none⟩) m m) ∧ w'.cell? ⟨g, 11, none⟩ = some (.int .i64 (p.dl : Int)))) (ds := []) #[false, false, false, false, false, false, false, false, false, false] (by kernel_rfl) rfl rfl ⟨H.out.c10, H.out.c11⟩ (fun hHeld => ?_)
  refine with_tabW dt1_tab dt1_bits (fun HT_ HW_ => ?_)
  have HB := Aside0.mk (show Below w.heap.size w w.drew from below_drew (Below.refl _ w))
  generalize w.drew = w2 at HB hHeld ⊢
  refine pure_ (i := 0) (N := some 3) (v := ?_) (a' := ?_) (zF 10 1) rfl rfl (any_of HT_.out (by kernel_rfl)) (fun _ _ _ h => h) (Or.inl ⟨by rfl, ?_⟩) ?_ ?_
  rotate_left; (intro w'; go_simp; with_reducible rfl); rotate_left; (simp only [Act.put, zA, zZ, zS, i64_w, i32_w]; rfl)
  refine pure_ (i := 1) (N := some 4) (v := ?_) (a' := ?_) (zF 10 3) rfl rfl (any_of HT_.out (by kernel_rfl)) (fun _ _ _ h => h) (Or.inl ⟨by rfl, ?_⟩) ?_ ?_
  rotate_left; (intro w'; go_simp; with_reducible rfl); rotate_left; (simp only [Act.put, zA, zZ, zS, i64_w, i32_w]; rfl)
  refine pure_ (i := 2) (N := some 5) (v := ?_) (a' := ?_) (zF 10 7) rfl rfl (any_of HT_.out (by kernel_rfl)) (fun _ _ _ h => h) (Or.inl ⟨by rfl, ?_⟩) ?_ ?_
  rotate_left; (intro w'; go_simp; with_reducible rfl); rotate_left; (simp only [Act.put, zA, zZ, zS, i64_w, i32_w]; rfl)
  refine pure_ (i := 4) (N := some 7) (v := ?_) (a' := ?_) (zF 10 23) rfl rfl (any_of HT_.out (by kernel_rfl)) (fun _ _ _ h => h) (Or.inl ⟨by rfl, ?_⟩) ?_ ?_
  rotate_left; (intro w'; go_simp; with_reducible rfl); rotate_left; (simp only [Act.put, zA, zZ, zS, i64_w, i32_w]; rfl)
  refine pure_ (i := 5) (N := some 8) (v := ?_) (a' := ?_) (zF 10 55) rfl rfl (any_of HT_.out (by kernel_rfl)) (fun _ _ _ h => h) (Or.inl ⟨by rfl, ?_⟩) ?_ ?_
  rotate_left; (intro w'; go_simp; with_reducible rfl); rotate_left; (simp only [Act.put, zA, zZ, zS, i64_w, i32_w]; rfl)
  refine pure_ (i := 6) (N := some 9) (v := ?_) (a' := ?_) (zF 10 119) rfl rfl (any_of HT_.out (by kernel_rfl)) (fun _ _ _ h => h) (Or.inl ⟨by rfl, ?_⟩) ?_ ?_
  rotate_left; (intro w'; go_simp; with_reducible rfl); rotate_left; (simp only [Act.put, zA, zZ, zS, i64_w, i32_w]; rfl)
  refine take_ (i := 3) (N := some 6) (v := ?_) (a' := ?_) (zF 10 127) rfl rfl (take_ofW HT_.out HW_.out (by kernel_rfl)) (fun _ _ _ h => h) (Or.inl ⟨by rfl, ?_⟩) hHeld ?_ ?_
  rotate_left; (rintro w' ⟨s0, s1⟩; go_simp; with_reducible rfl); rotate_left; (simp only [Act.put, zA, zZ, zS, i64_w, i32_w]; rfl)
  refine take_ (i := 7) (N := some 10) (v := ?_) (a' := ?_) (zF 10 255) rfl rfl (take_ofW HT_.out HW_.out (by kernel_rfl)) (fun _ _ _ h => h) (Or.inl ⟨by rfl, ?_⟩) hHeld ?_ ?_
  rotate_left; (rintro w' ⟨s0, s1⟩; go_simp; with_reducible rfl); rotate_left; (simp only [Act.put, zA, zZ, zS, i64_w, i32_w]; rfl)
  refine pure_ (i := 8) (N := some 11) (v := ?_) (a' := ?_) (zF 10 511) rfl rfl (any_of HT_.out (by kernel_rfl)) (fun _ _ _ h => h) (Or.inl ⟨by rfl, ?_⟩) ?_ ?_
  rotate_left; (intro w'; go_simp; with_reducible rfl); rotate_left; (simp only [Act.put, zA, zZ, zS, i64_w, i32_w]; rfl)
  refine pure_ (i := 9) (N := some 2) (v := ?_) (a' := ?_) (zF 10 1023) rfl rfl (any_of HT_.out (by kernel_rfl)) (fun _ _ _ h => h) (Or.inl ⟨by rfl, ?_⟩) ?_ ?_
  rotate_left; (intro w'; go_simp; with_reducible rfl); rotate_left; (simp only [Act.put, zA, zZ, zS, i64_w, i32_w]; rfl)
  refine done_ (done_of HT_.out (by kernel_rfl)) ?_
  clear hHeld
  go_wp2
  go_ret
  exact ⟨rfl, HB.out⟩
theorem made_p (n : Nat) : madeCells (Value.int .i64 0).cells n = cellsP (List.replicate n 0) := by
  apply Array.ext_getElem?
  intro i
  show (madeCells #[.int .i64 0] n)[i]? = (cellsP (List.replicate n 0))[i]?
  by_cases h : i < n
  · simp [madeCells, cellsP, h, Nat.mod_one]
  · simp [madeCells, cellsP, h]
theorem made_d (n : Nat) : madeCells (Value.int .u8 0).cells n = cellsD (List.replicate n 0) := by
  apply Array.ext_getElem?
  intro i
  show (madeCells #[.int .u8 0] n)[i]? = (cellsD (List.replicate n 0))[i]?
  by_cases h : i < n
  · simp [madeCells, cellsD, h, Nat.mod_one]
  · simp [madeCells, cellsD, h]
set_option maxHeartbeats 8000000 in
set_option maxRecDepth 100000 in
theorem setParamsG (w : World) (B g k : Nat) (c : Array Value) (A : Option Addr) (n m : Nat) (h : w.heap[g]? = some (.cells c 94 (0, 0))) (h9 : c[9]? = some (.slice A n m)) (hg : B ≤ g) (hbase : B ≤ w.heap.size) (hk : k ≤ 1000000) :
    Calls Tryd.prog 49 #[.pointer (some ⟨g, 0, none⟩), .int .i64 (k : Int)] w fun e w' => e = .returned (.tuple #[]) ∧ ∃ gp, w.heap.size ≤ gp ∧ w'.heap[g]? = some (.cells (c.setIfInBounds 9 (.slice (some ⟨gp, 0, none⟩) k k)) 94 (0, 0)) ∧ w'.heap[gp]? = some (.cells (cellsP (List.replicate k 0)) 3 (0, 0)) ∧ Below B w w' := by
  have hmk : ∀ w_ : World, (Instr.makeSlice 92 (.int .i64 (k : Int)) (.int .i64 (k : Int))).run Tryd.prog w_ = .ok (.slice (some ⟨w_.heap.size, 0, none⟩) k k) (w_.alloc (.cells (cellsP (List.replicate k 0)) 3)) := by
    intro w_
    obtain ⟨i, hi, hz⟩ := Option.map_eq_some_iff.1 (show (Tryd.prog.info? 3).map (fun i => (i.zero, i.size, i.bytes)) = some (some (.int .i64 0), 1, 8) by kernel_rfl)
    simp only [Prod.mk.injEq] at hz
    obtain ⟨hz0, hz1, hz2⟩ := hz
    have := run_make_row (P := Tryd.prog) 92 3 i (.int .i64 0) Tryd.underlying92 hi hz0 hz1 rfl .i64 .i64 k (by rw [hz2]; omega) (by omega) w_
    rw [show madeCells #[Value.int .i64 0] k = cellsP (List.replicate k 0) from made_p k] at this
    exact this
  obtain ⟨cp, hcp⟩ : ∃ cp, cp = cellsP (List.replicate k 0) := ⟨_, rfl⟩
  rw [← hcp] at hmk ⊢
  have h2 := blk_alloc h (.cells cp 3)
  have hne : w.heap.size ≠ g := by have := blk_lt h; omega
  have hc : (w.alloc (.cells cp 3)).cell? ⟨g, 9, none⟩ = some (.slice A n m) := (blk_cell h2 9).trans h9
  have hf := blk_frozen h2 9
  have H2 := Aside0.mk h2
  clear h h2 hcp
  go_enter Tryd.func49, Tryd.ntmps49
  go_wp2
  go_end0
  exact ⟨rfl, w.heap.size, Nat.le_refl _, blk_set H2.out 9 _, blk_far (blk_new w _) (p := ⟨g, 9, none⟩) hne _, ((Below.refl B w).alloc hbase _).setCell hg _⟩
set_option maxHeartbeats 8000000 in
set_option maxRecDepth 100000 in
theorem setDataG (w : World) (B g k : Nat) (c : Array Value) (A : Option Addr) (n m : Nat) (h : w.heap[g]? = some (.cells c 94 (0, 0))) (h9 : c[10]? = some (.slice A n m)) (hg : B ≤ g) (hbase : B ≤ w.heap.size) (hk0 : 0 < k) (hk : k ≤ 1000000) :
    Calls Tryd.prog 27 #[.pointer (some ⟨g, 0, none⟩), .int .i64 (k : Int)] w fun e w' => e = .returned (.tuple #[]) ∧ ∃ gd, w.heap.size ≤ gd ∧ w'.heap[g]? = some (.cells (c.setIfInBounds 10 (.slice (some ⟨gd, 0, none⟩) k k)) 94 (0, 0)) ∧ w'.heap[gd]? = some (.cells (cellsD (List.replicate k 0)) 5 (0, 0)) ∧ Below B w w' ∧ (∀ (q : Nat) (t : TypeId) (cc : Array Value), w.heap[q]? = some (.cells cc t (0, 0)) → t ≠ 94 → w'.heap[q]? = some (.cells cc t (0, 0))) := by
  have tk : decide ((k : Int) ≤ 0) = false := decide_eq_false (by omega)
  have tk2 : ¬ k = 0 := by omega
  have hmk : ∀ w_ : World, (Instr.makeSlice 27 (.int .i64 (k : Int)) (.int .i64 (k : Int))).run Tryd.prog w_ = .ok (.slice (some ⟨w_.heap.size, 0, none⟩) k k) (w_.alloc (.cells (cellsD (List.replicate k 0)) 5)) := by
    intro w_
    obtain ⟨i, hi, hz⟩ := Option.map_eq_some_iff.1 (show (Tryd.prog.info? 5).map (fun i => (i.zero, i.size, i.bytes)) = some (some (.int .u8 0), 1, 1) by kernel_rfl)
    simp only [Prod.mk.injEq] at hz
    obtain ⟨hz0, hz1, hz2⟩ := hz
    have := run_make_row (P := Tryd.prog) 27 5 i (.int .u8 0) Tryd.underlying27 hi hz0 hz1 rfl .i64 .i64 k (by rw [hz2]; omega) (by omega) w_
    rw [show madeCells #[Value.int .u8 0] k = cellsD (List.replicate k 0) from made_d k] at this
    exact this
  obtain ⟨cp, hcp⟩ : ∃ cp, cp = cellsD (List.replicate k 0) := ⟨_, rfl⟩
  rw [← hcp] at hmk ⊢
  have h2 := blk_alloc h (.cells cp 5)
  have hne : w.heap.size ≠ g := by have := blk_lt h; omega
  have hc : (w.alloc (.cells cp 5)).cell? ⟨g, 10, none⟩ = some (.slice A n m) := (blk_cell h2 10).trans h9
  have hf := blk_frozen h2 10
  have H2 := Aside0.mk h2
  have H0 := Aside0.mk h
  clear h h2 hcp
  go_enter Tryd.func27, Tryd.ntmps27
  go_wp2
  go_end0
  refine ⟨rfl, w.heap.size, Nat.le_refl _, blk_set H2.out 10 _, blk_far (blk_new w _) (p := ⟨g, 10, none⟩) hne _, ((Below.refl B w).alloc hbase _).setCell hg _, fun q t cc hq ht => ?_⟩
  exact blk_far (blk_alloc hq _) (p := ⟨g, 10, none⟩) (fun e => by subst e; rw [H0.out] at hq; simp at hq; exact ht hq.2.symm) _
def p0 (n m : Nat) : PM := ⟨List.replicate n 0, List.replicate m 0, 0, 0, 0, 0⟩
set_option maxHeartbeats 8000000 in
set_option maxRecDepth 100000 in
theorem newParserG (w : World) (n m : Nat) (hn : n ≤ 1000000) (hm0 : 0 < m) (hm : m ≤ 1000000) : Calls Tryd.prog 26 #[.int .i64 (n : Int), .int .i64 (m : Int)] w fun e w' => ∃ g gp gd, e = .returned (.pointer (some ⟨g, 0, none⟩)) ∧ PV (fun _ => .nilFunc) w.heap.size w' w' g gp gd n m (p0 n m) ∧ Below w.heap.size w w' := by
  have HN := Aside0.mk hn
  have HM := Aside0.mk (show 0 < m ∧ m ≤ 1000000 from ⟨hm0, hm⟩)
  clear hn hm0 hm
  go_enter Tryd.func26, Tryd.ntmps26
  go_wp2_with fail
  refine (Ma.newP w).mono ?_
  rintro e w1 ⟨g, gp0, gd0, rfl, hg, h1, hb1⟩
  have HG := Aside0.mk hg
  have HB := Aside0.mk hb1
  have K1 := Aside0.mk h1
  clear hg hb1 h1
  go_wp2_with fail
  refine (setParamsG w1 w.heap.size g n _ _ 32 32 K1.out rfl HG.out HB.out.size HN.out).mono ?_
  rintro e w2 ⟨rfl, gp, hgp, h2, hp2, hb2⟩
  have B2 := Aside0.mk (HB.out.trans hb2)
  have K2 := Aside0.mk h2
  have P2 := Aside0.mk hp2
  have HP := Aside0.mk (Nat.le_trans HB.out.size hgp)
  clear h2 hp2 hb2 hgp
  go_wp2_with fail
  refine (setDataG w2 (w.heap.size) g m _ _ 65536 65536 K2.out rfl HG.out B2.out.size HM.out.1 HM.out.2).mono ?_
  rintro e w3 ⟨rfl, gd, hgd, h3, hd3, hb3, hf3⟩
  have B3 := Aside0.mk (B2.out.trans hb3)
  have K3 := Aside0.mk h3
  have D3 := Aside0.mk hd3
  have P3 := Aside0.mk (hf3 gp 3 _ P2.out (by decide))
  have GD := Aside0.mk (Nat.le_trans B2.out.size hgd)
  clear h3 hd3 hb3 hgd hf3
  go_wp2
  go_ret
  exact ⟨g, gp, gd, rfl, ⟨K3.out.trans rfl, P3.out, D3.out, List.length_replicate, List.length_replicate, Below.refl _ _, Far3.refl _ _ _ _, HG.out, HP.out, GD.out⟩, B3.out⟩
end Go.Proofs.YtmpmfdghdaofhaaDoor.Pm

namespace Go.Proofs.YtmpmfdghdaofhaaDoor.Pm
set_option linter.unusedVariables false
set_option linter.unusedSimpArgs false
open Go Go.RowKit Go.Proofs.YtmpmfdghdaofhaaDoorW.PrintWords Go.Proofs.YtmpmfdghdaofhaaDoorW.PrintLast Go.Proofs.YtmpmfdghdaofhaaDoorW.PrintMore
theorem info37 : (Tryd.prog.info? 37).map (fun i => (i.zero, i.size, i.bytes)) = some (some (.agg #[.int .i64 0, .int .i64 0, .int .u8 0, .int .i64 0, .int .i64 0, .slice none 0 0, .slice none 0 0]), 7, 88) := by kernel_rfl
theorem C_cellsD {W : World} {gd t : Nat} {l : List Int} (h : W.heap[gd]? = some (.cells (cellsD l) t (0, 0))) (m : Nat) (hm : m ≤ l.length) (hb : m ≤ 1000000) : (Kd.int .u8).C W (some ⟨gd, 0, none⟩) m (l.take m) := by
  refine ⟨by rw [List.length_take]; omega, by omega, fun _ => ⟨_, rfl, fun j p hp => ⟨[.int .u8 p], rfl, rfl, fun i u hu => ?_⟩⟩⟩
  have hj : j < (l.take m).length := by
    rcases Nat.lt_or_ge j (l.take m).length with h1 | h1
    · exact h1
    · rw [List.getElem?_eq_none h1] at hp
      cases hp
  have hp2 : l[j]? = some p := by
    rw [List.getElem?_take, if_pos (by rw [List.length_take] at hj; omega)] at hp
    exact hp
  cases i with
  | zero =>
    simp only [List.getElem?_cons_zero, Option.some.injEq] at hu
    subst hu
    have e : (⟨gd, 0, none⟩ : Addr).add (j * (Kd.int .u8).sz + 0) = ⟨gd, j, none⟩ := by
      show (⟨gd, 0, none⟩ : Addr).add (j * 1 + 0) = ⟨gd, j, none⟩
      simp [Addr.add]
      intro h_
      exact h_.symm
    rw [e, blk_cell h j]
    unfold cellsD
    rw [List.getElem?_toArray, List.getElem?_map, hp2]
    rfl
  | succ i => simp at hu
theorem ints_tot (l : List Int) (hl : l.length ≤ 1000000) : ∃ k r, PI.impl_ints.f k l = some r := by
  have key : ∀ (m i : Nat) (acc : List Int), i + m = l.length → acc.length = i → ∃ k r, PI.impl_ints.l0 k acc l (l.length : Int) (i : Int) = some r := by
    intro m
    induction m with
    | zero =>
      intro i acc hi ha
      refine ⟨1, acc, ?_⟩
      unfold PI.impl_ints.l0
      rw [if_neg (by omega)]
    | succ m ih =>
      intro i acc hi ha
      obtain ⟨k, r, h⟩ := ih (i + 1) (acc ++ [rd l (i : Int)]) (by omega) (by rw [List.length_append, ha]; rfl)
      refine ⟨k + 1, r, ?_⟩
      unfold PI.impl_ints.l0
      rw [if_pos (by omega), if_pos (by omega), if_pos (by omega), if_pos (by rw [ha]; omega), show wrap64 ((i : Int) + 1) = ((i + 1 : Nat) : Int) by unfold wrap64; omega]
      exact h
  exact key l.length 0 [] (by omega) rfl
noncomputable def prun (n : Nat) : PM → List Int → List (Int × Int)
  | _, [] => []
  | p, b :: l => ((pstep n p b).2, (pstep n p b).1.st) :: prun n (pstep n p b).1 l
theorem prun_cons (n : Nat) (p : PM) (b : Int) (l : List Int) : prun n p (b :: l) = ((pstep n p b).2, (pstep n p b).1.st) :: prun n (pstep n p b).1 l := rfl
theorem p0_ok (n m : Nat) : POk n m (p0 n m) := ⟨Int.le_refl 0, by show (0 : Int) ≤ 14; decide, Nat.zero_le _, Nat.zero_le _, fun h => absurd (show (0 : Int) = 14 from h) (by decide)⟩
def Outs (xs : List (List Value)) (l : List (Int × Int)) : Prop := xs.map (fun e => e.take 2) = l.map (fun q => [(.int .i64 q.1 : Value), .int .i64 q.2])
theorem Outs.snoc {xs : List (List Value)} {l : List (Int × Int)} (h : Outs xs l) {e : List Value} {a s : Int} (he : e.take 2 = [.int .i64 a, .int .i64 s]) : Outs (xs ++ [e]) (l ++ [(a, s)]) := by
  unfold Outs at h ⊢
  rw [List.map_append, List.map_append, h]
  simp [he]
theorem PV.rebase {hs : Nat → Value} {B : Nat} {w0 W : World} {g gp gd n m : Nat} {p : PM} (h : PV hs B w0 W g gp gd n m p) : PV hs B W W g gp gd n m p := ⟨h.bc, h.bp, h.bd, h.hn, h.hm, Below.refl _ _, Far3.refl _ _ _ _, h.hg, h.hgp, h.hgd⟩
abbrev Ok3 (g gp gd : Nat) : Nat → Prop := fun k => k ≠ g ∧ k ≠ gp ∧ k ≠ gd
theorem row_far {α : Type} {d : Kd α} {e B g gp gd : Nat} {W W' : World} {v : Value} {xs : List α} (h : d.R e W B (Ok3 g gp gd) v xs) (hf : Far3 W W' g gp gd) : d.R e W' B (Ok3 g gp gd) v xs :=
  Kd.R_step h (fun k ho hk => hf.2 k hk ho.1 ho.2.1 ho.2.2)
theorem row_new {α : Type} {d : Kd α} {e g gp gd : Nat} {W W' : World} {v : Value} {xs : List α} (hE : d.E = []) (h : d.R e W' W.heap.size (fun _ => True) v xs) (hg : g < W.heap.size) (hgp : gp < W.heap.size) (hgd : gd < W.heap.size) : d.R e W' W.heap.size (Ok3 g gp gd) v xs :=
  Kd.R_reok hE h (fun k hk => by
    have := Kd.R_base h k hk
    exact ⟨by omega, by omega, by omega⟩)
theorem PV.grown {hs : Nat → Value} {B : Nat} {w0 W W' : World} {g gp gd n m : Nat} {p : PM} (h : PV hs B w0 W g gp gd n m p) {row : Option Nat} (hg : W.grownBy W' row) (h1 : some g ≠ row) (h2 : some gp ≠ row) (h3 : some gd ≠ row) : PV hs B W' W' g gp gd n m p :=
  ⟨blk_grown h.bc hg h1, blk_grown h.bp hg h2, blk_grown h.bd hg h3, h.hn, h.hm, Below.refl _ _, Far3.refl _ _ _ _, h.hg, h.hgp, h.hgd⟩
theorem far2 {e1 e2 B1 B2 : Nat} {ok1 ok2 : Nat → Prop} {W : World} {α β : Type} {d1 : Kd α} {d2 : Kd β} {v1 v2 : Value} {xs : List α} {ys : List β} (h1 : d1.R e1 W B1 ok1 v1 xs) (h2 : d2.R e2 W B2 ok2 v2 ys) (hE1 : d1.E = []) (hE2 : d2.E = []) (hne : e1 ≠ e2) : ∀ k, v1.ownBlock = some k → some k ≠ v2.ownBlock := by
  intro k hk e
  obtain ⟨_, _, _, q, hq, c, hc⟩ := (Kd.R_bound h1).1 k hk
  obtain ⟨_, _, _, q', hq', c', hc'⟩ := (Kd.R_bound h2).1 k e.symm
  rw [hE1] at hq
  rw [hE2] at hq'
  simp at hq hq'
  subst hq hq'
  rw [hc] at hc'
  simp at hc'
  exact hne hc'.2
structure Well (n m : Nat) : Prop where
  ok : ∀ p b, POk n m p → p.da.length = m → 0 ≤ b → b < 256 → POk n m (pstep n p b).1
  act : ∀ p b, POk n m p → 0 ≤ b → b < 256 → 0 ≤ (pstep n p b).2 ∧ (pstep n p b).2 ≤ 9
  u : ∀ p b, POk n m p → 0 ≤ b → b < 256 → p.st = 14 → ulen (low (pcollect p b)) ≠ -1
set_option maxHeartbeats 16000000 in
set_option maxRecDepth 100000 in
theorem advance_ (w : World) (A : Option Addr) (c n m : Nat) (l : List Int) (hr : Kd.C (Kd.int .u8) w A l.length l) (hc : l.length ≤ c) (hl : l.length ≤ 1000) (hb : ∀ x ∈ l, 0 ≤ x ∧ x < 256) (hn : 4 ≤ n ∧ n ≤ 4096) (hm : 1 ≤ m ∧ m ≤ 65536) (hw : Well n m) (hT : Lib.Utf8Tabs 0 1 w) :
    Calls Tryd.prog 12 #[.int .i64 (n : Int), .int .i64 (m : Int), .slice A l.length c] w fun e w' => ∃ v xs, e = .returned v ∧ Kd.R (Kd.raw 7) 37 w' w.heap.size (fun _ => True) v xs ∧ Outs xs (prun n (p0 n m) l) ∧ Below w.heap.size w w' := by
  have t1 : decide ((n : Int) < 4) = false := decide_eq_false (by omega)
  have t2 : decide (4096 < (n : Int)) = false := decide_eq_false (by omega)
  have t3 : decide ((m : Int) < 1) = false := decide_eq_false (by omega)
  have t4 : decide (65536 < (m : Int)) = false := decide_eq_false (by omega)
  have HR := Aside0.mk hr
  have HC := Aside0.mk hc
  have HLL := Aside0.mk hl
  have HBY := Aside0.mk hb
  have HN := Aside0.mk hn
  have HM := Aside0.mk hm
  have HW := Aside0.mk hw
  have HT := Aside0.mk hT
  have q1 : ¬ n < 4 := by omega
  have q2 : ¬ 4096 < n := by omega
  have q3 : ¬ m < 1 := by omega
  have q4 : ¬ 65536 < m := by omega
  clear hr hc hl hb hn hm hw hT
  go_enter Tryd.func12, Tryd.ntmps12
  go_wp2_with fail
  refine (newParserG w n m (by have := HN.out; omega) (by have := HM.out; omega) (by have := HM.out; omega)).mono ?_
  rintro e w1 ⟨g, gp, gd0, rfl, hpv, hb1⟩
  have H1 := Aside0.mk hpv
  have B1 := Aside0.mk hb1
  clear hpv hb1
  go_wp2_with fail
  refine (setDataG w1 w.heap.size g m _ _ m m H1.out.bc rfl H1.out.hg B1.out.size (by have := HM.out; omega) (by have := HM.out; omega)).mono ?_
  rintro e w2 ⟨rfl, gd, hgd, h3, hd3, hb3, hf3⟩
  have H2 := Aside0.mk (show PV (fun _ => .nilFunc) w.heap.size w2 w2 g gp gd n m (p0 n m) from ⟨h3.trans rfl, hf3 gp 3 _ H1.out.bp (by decide), hd3, List.length_replicate, List.length_replicate, Below.refl _ _, Far3.refl _ _ _ _, H1.out.hg, H1.out.hgp, Nat.le_trans B1.out.size hgd⟩)
  have B2 := Aside0.mk (B1.out.trans hb3)
  clear h3 hd3 hb3 hf3 hgd H1
  go_wp2_with fail
  refine (PI.impl_own.calls A c l l w2 (Kd.C_below HR.out B2.out) HC.out (by unfold PI.impl_own.f; rw [if_pos (by have := HLL.out; show 0 + l.length < _; omega)]; rfl)).mono ?_
  rintro e w3 ⟨vb, rfl, hrb, hb3⟩
  obtain ⟨Ab, cb, eb⟩ : ∃ A c, vb = .slice A l.length c := Kd.R_slice hrb
  subst eb
  have RB := Aside0.mk (row_new rfl hrb (blk_lt H2.out.bc) (blk_lt H2.out.bp) (blk_lt H2.out.bd))
  have H3 := Aside0.mk (H2.out.on hb3).rebase
  have B3 := Aside0.mk (below_step B2.out hb3)
  have SZ := Aside0.mk (show w.heap.size ≤ w2.heap.size from B2.out.size)
  clear hrb hb3 H2 B2 B1
  obtain ⟨L, hL⟩ : ∃ L, L = l.length := ⟨_, rfl⟩
  rw [← hL] at RB
  have HL := Aside0.mk hL
  obtain ⟨base, hbase⟩ : ∃ b, b = w2.heap.size := ⟨_, rfl⟩
  rw [← hbase] at RB SZ
  have HLK := Aside0.mk (show l.length = L from hL.symm)
  simp only [← hL]
  clear hL hbase
  go_wp2_with fail
  go_loopw [8, 35] (fun v8 v35 wr => ∃ (J : Int) (k : Nat) (p : PM) (xs : List (List Value)) (acc : List (Int × Int)), v35 = .int .i64 J ∧ Aside0 (J = (k : Int)) ∧ Aside0 (k ≤ L) ∧ Aside0 (PV (fun _ => .nilFunc) w.heap.size wr wr g gp gd n m p) ∧ Aside0 (POk n m p) ∧ Aside0 (Kd.R (Kd.int .u8) 5 wr base (Ok3 g gp gd) (.slice Ab L cb) l) ∧ Aside0 (Kd.R (Kd.raw 7) 37 wr base (Ok3 g gp gd) v8 xs) ∧ Aside0 (xs.length = k) ∧ Aside0 (Outs xs acc) ∧ Aside0 (acc ++ prun n p (l.drop k) = prun n (p0 n m) l) ∧ Aside0 (Below w.heap.size w wr)) (fun _ v35 _ => L - (intOf v35).toNat)
  case atStart => exact ⟨0, 0, p0 n m, [], [], rfl, ⟨rfl⟩, ⟨Nat.zero_le _⟩, H3, ⟨p0_ok n m⟩, RB, ⟨Kd.R_nil _ _ _ _ _⟩, ⟨rfl⟩, ⟨rfl⟩, ⟨rfl⟩, B3⟩
  case round =>
    clear H3 RB B3
    obtain ⟨J, k, p, xs, acc, rfl, HJ, HK, H, HP, RB, RO, HX, HO, HA, HB⟩ := hrel
    have hwr : wrap64 (J + 1) = J + 1 := by have := HJ.out; have := HK.out; have := HLL.out; have := HLK.out; unfold wrap64; omega
    by_cases hlt : k < L
    · have hj := HJ.out
      have tlt : decide (J < (L : Int)) = true := decide_eq_true (by omega)
      have z0 : 0 ≤ J := by omega
      have z1 : J < (L : Int) := by omega
      obtain ⟨ad, e0, hx⟩ := Kd.at_int (Kd.R_reads' RB.out).2.2 J z0 (by have := HLK.out; omega)
      cases e0
      obtain ⟨b, hbv⟩ : ∃ b, b = rd l J := ⟨_, rfl⟩
      rw [← hbv] at hx
      obtain rfl : J = (k : Int) := hj
      rw [Int.toNat_natCast] at hx
      have hkl : k < l.length := by rw [HLK.out]; exact hlt
      have hbm : b ∈ l := by
        rw [hbv]
        unfold rd
        rw [Int.toNat_natCast, List.getD_eq_getElem?_getD, List.getElem?_eq_getElem hkl]
        exact List.getElem_mem hkl
      have hdr : l.drop k = b :: l.drop (k + 1) := by
        rw [List.drop_eq_getElem_cons hkl, hbv]
        unfold rd
        rw [Int.toNat_natCast, List.getD_eq_getElem?_getD, List.getElem?_eq_getElem hkl]
        rfl
      have hbb := HBY.out b hbm
      obtain ⟨p1, hp1⟩ : ∃ q, q = (pstep n p b).1 := ⟨_, rfl⟩
      obtain ⟨a, ha⟩ : ∃ a, a = (pstep n p b).2 := ⟨_, rfl⟩
      have HPK := Aside0.mk (show POk n m p1 by rw [hp1]; exact HW.out.ok p b HP.out H.out.hm hbb.1 hbb.2)
      have haa := HW.out.act p b HP.out hbb.1 hbb.2
      rw [← ha] at haa
      have hwa : wrap64 a = a := by unfold wrap64; omega
      have hws : wrap64 p1.st = p1.st := by have h0 := HPK.out.s0; have h1 := HPK.out.s1; unfold wrap64; omega
      have HADV := Aside0.mk (Adv_ (fun _ => .nilFunc) w.heap.size wr wr g gp gd n m p H.out b hbb.1 hbb.2 (fun _ _ => rfl) HP.out (by have := HM.out; have := HN.out; omega) (HW.out.u p b HP.out hbb.1 hbb.2))
      rw [← hp1, ← ha] at HADV
      have HA2 := Aside0.mk (show (acc ++ [(a, p1.st)]) ++ prun n p1 (l.drop (k + 1)) = prun n (p0 n m) l by
        have h_ := HA.out
        rw [hdr, prun_cons, ← hp1, ← ha] at h_
        rw [List.append_assoc]
        exact h_)
      clear hbv hbm hdr hbb hp1 ha haa
      go_wp2_with fail
      refine HADV.out.mono ?_
      rintro e w1 ⟨rfl, hv⟩
      have G1 := Aside0.mk hv.rebase
      have RB1 := Aside0.mk (row_far RB.out hv.f)
      have RO1 := Aside0.mk (row_far RO.out hv.f)
      have HB1 := Aside0.mk (HB.out.trans hv.b)
      clear hv H RB RO HB hx
      go_wp2_with fail
      refine (state_ _ _ _ _ _ _ _ _ _ _ G1.out).mono ?_
      rintro e w4 ⟨rfl, hb4⟩
      have G4 := Aside0.mk (G1.out.on hb4).rebase
      have RB4 := Aside0.mk (Kd.R_below RB1.out hb4)
      have RO4 := Aside0.mk (Kd.R_below RO1.out hb4)
      have HB4 := Aside0.mk (below_step HB1.out hb4)
      clear hb4 G1 RB1 RO1 HB1
      go_wp2_with fail
      refine (control_ _ _ _ _ _ _ _ _ _ _ G4.out).mono ?_
      rintro e w5 ⟨rfl, hb5⟩
      have G5 := Aside0.mk (G4.out.on hb5).rebase
      have RB5 := Aside0.mk (Kd.R_below RB4.out hb5)
      have RO5 := Aside0.mk (Kd.R_below RO4.out hb5)
      have HB5 := Aside0.mk (below_step HB4.out hb5)
      clear hb5 G4 RB4 RO4 HB4
      go_wp2_with fail
      refine (rune_ _ _ _ _ _ _ _ _ _ _ G5.out (Utf8Tabs_below HT.out HB5.out)).mono ?_
      rintro e w6 ⟨rn, rfl, hb6⟩
      have G6 := Aside0.mk (G5.out.on hb6).rebase
      have RB6 := Aside0.mk (Kd.R_below RB5.out hb6)
      have RO6 := Aside0.mk (Kd.R_below RO5.out hb6)
      have HB6 := Aside0.mk (below_step HB5.out hb6)
      clear hb6 G5 RB5 RO5 HB5
      go_wp2_with fail
      refine (command_ _ _ _ _ _ _ _ _ _ _ G6.out).mono ?_
      rintro e w7 ⟨rfl, hb7⟩
      have G7 := Aside0.mk (G6.out.on hb7).rebase
      have RB7 := Aside0.mk (Kd.R_below RB6.out hb7)
      have RO7 := Aside0.mk (Kd.R_below RO6.out hb7)
      have HB7 := Aside0.mk (below_step HB6.out hb7)
      clear hb7 G6 RB6 RO6 HB6
      go_wp2_with fail
      refine (params_ _ _ _ _ _ _ _ _ _ _ G7.out HPK.out.pl (by have := HN.out; omega)).mono ?_
      rintro e w8 ⟨vp, rfl, hrp, hb8⟩
      obtain ⟨qs, hqs⟩ : ∃ q, q = p1.ps.take p1.pl := ⟨_, rfl⟩
      rw [← hqs] at hrp
      have HQS := Aside0.mk (show qs.length ≤ 1000000 by rw [hqs, List.length_take]; have := HPK.out.pl; have := HN.out; omega)
      clear hqs
      obtain ⟨Ap, cp, ep⟩ := Kd.R_slice hrp
      subst ep
      have RP := Aside0.mk hrp
      have G8 := Aside0.mk (G7.out.on hb8).rebase
      have RB8 := Aside0.mk (Kd.R_below RB7.out hb8)
      have RO8 := Aside0.mk (Kd.R_below RO7.out hb8)
      have HB8 := Aside0.mk (below_step HB7.out hb8)
      clear hrp hb8 G7 RB7 RO7 HB7
      obtain ⟨ki, ri, hi⟩ := ints_tot qs HQS.out
      have HI := Aside0.mk hi
      clear hi
      go_wp2_with fail
      refine (PI.impl_ints.calls ki Ap cp qs ri w8 (Kd.R_reads' RP.out).2.2 (Kd.R_reads' RP.out).2.1 HI.out).mono ?_
      rintro e w9 ⟨vi, rfl, hri, hb9⟩
      obtain ⟨Ai, ci, ei⟩ := Kd.R_slice hri
      subst ei
      have G9 := Aside0.mk (G8.out.on hb9).rebase
      have RB9 := Aside0.mk (Kd.R_below RB8.out hb9)
      have RO9 := Aside0.mk (Kd.R_below RO8.out hb9)
      have HB9 := Aside0.mk (below_step HB8.out hb9)
      clear hri hb9 G8 RB8 RO8 HB8 RP HI
      go_wp2_with fail
      refine (data_ _ _ _ _ _ _ _ _ _ _ G9.out HPK.out.dl).mono ?_
      rintro e w10 ⟨rfl, hb10⟩
      have G10 := Aside0.mk (G9.out.on hb10).rebase
      have RB10 := Aside0.mk (Kd.R_below RB9.out hb10)
      have RO10 := Aside0.mk (Kd.R_below RO9.out hb10)
      have HB10 := Aside0.mk (below_step HB9.out hb10)
      clear hb10 G9 RB9 RO9 HB9
      have HOWN := Aside0.mk (show Calls Tryd.prog 28 #[.slice (some ⟨gd, 0, none⟩) p1.dl m] w10 fun e w' => ∃ A k c, e = .returned (.slice A k c) ∧ Below w10.heap.size w10 w' from by
        have hdl := HPK.out.dl
        have hda : p1.da.length = m := G10.out.hm
        have h_ := PI.impl_own.calls (some ⟨gd, 0, none⟩) m (p1.da.take p1.dl) (p1.da.take p1.dl) w10 (by rw [List.length_take, Nat.min_eq_left (by omega)]; exact C_cellsD G10.out.bd p1.dl (by omega) (by have := HM.out; omega)) (by rw [List.length_take]; omega) (by unfold PI.impl_own.f; rw [if_pos (by show 0 + (p1.da.take p1.dl).length < _; rw [List.length_take]; have := HM.out; omega)]; rfl)
        rw [show (p1.da.take p1.dl).length = p1.dl by rw [List.length_take]; omega] at h_
        refine h_.mono ?_
        rintro e w' ⟨v, rfl, hrv, hbv⟩
        obtain ⟨A, c, e⟩ := Kd.R_slice hrv
        subst e
        exact ⟨_, _, _, rfl, hbv⟩)
      go_wp2_with fail
      refine HOWN.out.mono ?_
      rintro e w11 ⟨Ao, ko, co, rfl, hb11⟩
      have G11 := Aside0.mk (G10.out.on hb11).rebase
      have RB11 := Aside0.mk (Kd.R_below RB10.out hb11)
      have RO11 := Aside0.mk (Kd.R_below RO10.out hb11)
      have HB11 := Aside0.mk (below_step HB10.out hb11)
      have SZ11 := Aside0.mk (show base ≤ w11.heap.size from by
        obtain ⟨g_, c_, _, h1, h2, _⟩ := Kd.R_form RB11.out (by rw [HLK.out]; omega)
        omega)
      clear hb11 G10 RB10 RO10 HB10 HOWN
      go_wp2_with (first | ((with_reducible refine gate_builtin (b := .append) (xs := #[.tmp 42, .tmp 62]) rfl ?_); at_builtin; refine Kd.R_append (Kd.raw 7) (w0 := w11) base rfl (.tmp 42) (.tmp 62) 29 37 (.agg #[.int .i64 0, .int .i64 0, .int .u8 0, .int .i64 0, .int .i64 0, .slice none 0 0, .slice none 0 0]) 88 rfl Tryd.underlying29 info37 rfl (by decide) (by omega) u8 xs [.int .i64 a, .int .i64 p1.st, .int .u8 (low p1), .int .i64 (wrap64 rn), .int .i64 p1.cmd, .slice Ai ri.length ci, .slice Ao ko co] [.int .i64 a, .int .i64 p1.st, .int .u8 (low p1), .int .i64 (wrap64 rn), .int .i64 p1.cmd, .slice Ai ri.length ci, .slice Ao ko co] (Ok3 g gp gd) (fun _ => False) rfl rfl ?aP (fun _ hk => hk.elim) ?aF ?aO ?aB ?aS ?aL ?_; (case aP => exact ⟨rfl, rfl, fun u hu => by simp at hu; rcases hu with rfl | rfl | rfl | rfl | rfl | rfl | rfl <;> rfl⟩); (case aF => exact (fun k hk => ⟨fun e => by (have := blk_lt G11.out.bc; omega), fun e => by (have := blk_lt G11.out.bp; omega), fun e => by (have := blk_lt G11.out.bd; omega)⟩)); (case aO => exact RO11.out); (case aB => exact Below.refl _ _); (case aS => exact SZ11.out); (case aL => have := HX.out; have := HLL.out; have := HLK.out; omega); intro v1 w12 ho hb hg hat; have HO12 := Aside0.mk ho; have HBB := Aside0.mk hb; have HG := Aside0.mk hg; clear ho hb hg hat) | fail)
      go_roundw
      case rel =>
        refine ⟨_, k + 1, p1, _, acc ++ [(a, p1.st)], rfl, ⟨by first | rfl | (rw [hwr]; rfl)⟩, ⟨by omega⟩, ⟨G11.out.grown HG.out (Kd.R_away RO11.out (fun k hk => hk.1)) (Kd.R_away RO11.out (fun k hk => hk.2.1)) (Kd.R_away RO11.out (fun k hk => hk.2.2))⟩, HPK, ⟨Kd.R_grown2 RB11.out rfl HG.out (far2 RO11.out RB11.out rfl rfl (by decide))⟩, HO12, ⟨by rw [List.length_append, HX.out]; rfl⟩, ⟨HO.out.snoc rfl⟩, HA2, ⟨HB11.out.trans (HBB.out.mono SZ.out)⟩⟩
      case measure =>
        (try rw [hwr])
        simp [intOf]
        omega
    · have tlt : decide (J < (L : Int)) = false := decide_eq_false (by have := HJ.out; omega)
      have hk : k = L := by have := HK.out; have := HJ.out; omega
      have HF := Aside0.mk (show acc = prun n (p0 n m) l by
        have h_ := HA.out
        rw [hk, ← HLK.out, List.drop_length] at h_
        rw [← h_]
        exact (List.append_nil acc).symm)
      clear hk
      go_wp2
      go_ret
      exact ⟨_, xs, rfl, Kd.R_lower (Kd.R_mono RO.out (fun _ _ => trivial)) SZ.out, by rw [← HF.out]; exact HO.out, HB.out⟩
end Go.Proofs.YtmpmfdghdaofhaaDoor.Pm
