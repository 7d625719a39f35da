/- What the walk of readParameters carries: the sequence's block, the parameter's own block, the parameters gathered so far. No walk. -/
import Derived.Test.YtakjcihjkagnfaaDoorReadW0
import Derived.Deep.LoopGhost
import Derived.Deep.DeepCutAuto
import Derived.Deep.CutBlock
import Derived.BigQuiet
import Derived.Deep.QuietTactic
namespace Go.Proofs.YtakjcihjkagnfaaDoor.Or
set_option linter.unusedVariables false
open Go Go.RowKit Go.Proofs.YtakjcihjkagnfaaDoorW.PrintWords Go.Proofs.YtakjcihjkagnfaaDoorW.PrintLast

theorem cell_set {w : World} {b j : Nat} {cs : Array Value} {t : TypeId} (h : w.heap[b]? = some (.cells cs t (0, 0))) (v : Value) : (w.setCell ⟨b, j, none⟩ v).heap[b]? = some (.cells (cs.setIfInBounds j v) t (0, 0)) := by
  have hlt := lt_of_block h
  have h' : w.heap[b] = .cells cs t (0, 0) := by simpa [Array.getElem?_eq_getElem hlt] using h
  show (w.heap.modify b _)[b]? = _
  rw [Array.getElem?_eq_getElem (by simpa using hlt), Array.getElem_modify_self, h']
  rfl
theorem cell_far {w : World} {b k j : Nat} {o : Obj} (h : w.heap[k]? = some o) (hne : k ≠ b) (v : Value) : (w.setCell ⟨b, j, none⟩ v).heap[k]? = some o := (Below.heap_setCell w ⟨b, j, none⟩ v k hne).trans h
theorem cell_of {w : World} {b : Nat} {cs : Array Value} {t : TypeId} (h : w.heap[b]? = some (.cells cs t (0, 0))) (j : Nat) (v : Value) (hj : cs[j]? = some v) : w.cell? ⟨b, j, none⟩ = some v := by simp [World.cell?, h, hj]
theorem froz_of {w : World} {b : Nat} {cs : Array Value} {t : TypeId} (h : w.heap[b]? = some (.cells cs t (0, 0))) (j : Nat) : w.frozen? ⟨b, j, none⟩ = false := by simp [World.frozen?, h]

/-- The sequence's block. -/
def SB (w : World) (B : Nat) (p : Int) (vP vI : Value) (f : Int) : Prop := w.heap[B]? = some (.cells #[.int .i64 1, .int .u8 p, vP, vI, .int .u8 f, .slice none 0 0, .bool false] 35 (0, 0))
/-- The parameter's own block. -/
def NB (w : World) (N : Nat) (v : Int) (m q : Bool) : Prop := w.heap[N]? = some (.cells #[.int .i64 v, .bool m, .bool q] 39 (0, 0))

structure PInv (w0 : World) (B N : Nat) (p v : Int) (m : Bool) (vP : Value) (acc : List S36) (w : World) : Prop where
  sb : SB w B p vP (.slice none 0 0) 0
  nb : NB w N v m false
  row : Kd.R k36 39 w w0.heap.size (fun k => k ≠ B ∧ k ≠ N) vP acc
  bel : Below w0.heap.size w0 w
  hB : w0.heap.size ≤ B
  hN : B < N

theorem PInv.drew {w0 : World} {B N : Nat} {p v : Int} {m : Bool} {vP : Value} {acc : List S36} {w : World} (h : PInv w0 B N p v m vP acc w) : PInv w0 B N p v m vP acc w.drew :=
  ⟨h.sb, h.nb, h.row, ⟨h.bel.os, h.bel.tape, h.bel.output, h.bel.size, h.bel.block⟩, h.hB, h.hN⟩
theorem PInv.drewN {w0 : World} {B N : Nat} {p v : Int} {m : Bool} {vP : Value} {acc : List S36} {w : World} (h : PInv w0 B N p v m vP acc w) (n : Nat) : PInv w0 B N p v m vP acc (w.drewN n) :=
  ⟨h.sb, h.nb, Kd.R_drewN h.row n, ⟨h.bel.os, h.bel.tape, h.bel.output, h.bel.size, h.bel.block⟩, h.hB, h.hN⟩
/-- A digit is put behind the number. -/
theorem PInv.digit {w0 : World} {B N : Nat} {p v : Int} {m : Bool} {vP : Value} {acc : List S36} {w : World} (h : PInv w0 B N p v m vP acc w) (v' : Int) :
    PInv w0 B N p v' false vP acc ((w.setCell ⟨N, 0, none⟩ (.int .i64 v')).setCell ⟨N, 1, none⟩ (.bool false)) := by
  have hB := h.hB
  have hN := h.hN
  refine ⟨cell_far (cell_far h.sb (by omega) _) (by omega) _, cell_set (cell_set h.nb _) _, Kd.R_far (Kd.R_far h.row (fun k hk => hk.2) _) (fun k hk => hk.2) _, (h.bel.setCell (by show w0.heap.size ≤ N; omega) _).setCell (by show w0.heap.size ≤ N; omega) _, hB, hN⟩
/-- The mark that sub-parameters follow. -/
structure PMid (w0 : World) (B N : Nat) (p v : Int) (m q : Bool) (vP : Value) (acc : List S36) (w : World) : Prop where
  sb : SB w B p vP (.slice none 0 0) 0
  nb : NB w N v m q
  row : Kd.R k36 39 w w0.heap.size (fun k => k ≠ B ∧ k ≠ N) vP acc
  bel : Below w0.heap.size w0 w
  hB : w0.heap.size ≤ B
  hN : B < N
theorem PInv.more {w0 : World} {B N : Nat} {p v : Int} {m : Bool} {vP : Value} {acc : List S36} {w : World} (h : PInv w0 B N p v m vP acc w) (q : Bool) :
    PMid w0 B N p v m q vP acc (w.setCell ⟨N, 2, none⟩ (.bool q)) := by
  have hB := h.hB
  have hN := h.hN
  exact ⟨cell_far h.sb (by omega) _, cell_set h.nb _, Kd.R_far h.row (fun k hk => hk.2) _, h.bel.setCell (by show w0.heap.size ≤ N; omega) _, hB, hN⟩
theorem PInv.mid {w0 : World} {B N : Nat} {p v : Int} {m : Bool} {vP : Value} {acc : List S36} {w : World} (h : PInv w0 B N p v m vP acc w) : PMid w0 B N p v m false vP acc w := ⟨h.sb, h.nb, h.row, h.bel, h.hB, h.hN⟩
theorem PMid.drew {w0 : World} {B N : Nat} {p v : Int} {m q : Bool} {vP : Value} {acc : List S36} {w : World} (h : PMid w0 B N p v m q vP acc w) : PMid w0 B N p v m q vP acc w.drew :=
  ⟨h.sb, h.nb, Kd.R_drew h.row, below_drew1 h.bel, h.hB, h.hN⟩
/-- A parameter is put behind the others, and stored. -/
theorem PMid.app {w0 : World} {B N : Nat} {p v : Int} {m q : Bool} {vP : Value} {acc : List S36} {w : World} (h : PMid w0 B N p v m q vP acc w) {v1 : Value} {w1 : World}
    (hr : Kd.R k36 39 w1 w0.heap.size (fun k => k ≠ B ∧ k ≠ N) v1 (acc ++ [⟨v, m, q⟩])) (hb : Below w0.heap.size w0 w1) (hg : w.grownBy w1 vP.ownBlock) :
    PMid w0 B N p v m q v1 (acc ++ [⟨v, m, q⟩]) (w1.setCell ⟨B, 2, none⟩ v1) := by
  have hB := h.hB
  have hN := h.hN
  have eB := hg.block B (lt_of_block h.sb) (fun e => (h.row.1 B e.symm).1 rfl)
  have eN := hg.block N (lt_of_block h.nb) (fun e => (h.row.1 N e.symm).2 rfl)
  exact ⟨cell_set (eB.trans h.sb) _, cell_far (eN.trans h.nb) (by omega) _, Kd.R_far hr (fun k hk => hk.1) _, hb.setCell hB _, hB, hN⟩
theorem PMid.app' {w0 : World} {B N : Nat} {p v : Int} {m q : Bool} {vP : Value} {acc : List S36} {w : World} (h : PMid w0 B N p v m q vP acc w) {A1 : Option Addr} {c1 : Nat} {w1 : World}
    (hr : Kd.R k36 39 w1 w0.heap.size (fun k => k ≠ B ∧ k ≠ N) (.slice A1 (acc ++ [(⟨v, m, q⟩ : S36)]).length c1) (acc ++ [⟨v, m, q⟩])) (hb : Below w0.heap.size w0 w1) (hg : w.drew.grownBy w1 vP.ownBlock) :
    PMid w0 B N p v m q (.slice A1 (acc.length + 1) c1) (acc ++ [⟨v, m, q⟩]) (w1.setCell ⟨B, 2, none⟩ (.slice A1 (acc.length + 1) c1)) := by
  have e : (acc ++ [(⟨v, m, q⟩ : S36)]).length = acc.length + 1 := by simp
  rw [e] at hr
  exact h.drew.app hr hb hg
/-- The next parameter begins. -/
theorem PMid.next {w0 : World} {B N : Nat} {p v : Int} {m q : Bool} {vP : Value} {acc : List S36} {w : World} (h : PMid w0 B N p v m q vP acc w) :
    PInv w0 B N p 0 true vP acc (((w.setCell ⟨N, 0, none⟩ (.int .i64 0)).setCell ⟨N, 1, none⟩ (.bool true)).setCell ⟨N, 2, none⟩ (.bool false)) := by
  have hB := h.hB
  have hN := h.hN
  have hn : w0.heap.size ≤ N := by omega
  exact ⟨cell_far (cell_far (cell_far h.sb (by omega) _) (by omega) _) (by omega) _, cell_set (cell_set (cell_set h.nb _) _) _, Kd.R_far (Kd.R_far (Kd.R_far h.row (fun k hk => hk.2) _) (fun k hk => hk.2) _) (fun k hk => hk.2) _, ((h.bel.setCell hn _).setCell hn _).setCell hn _, hB, hN⟩

/-- Behind the parameters: the intermediates are gathered. -/
structure IInv (w0 : World) (B : Nat) (p : Int) (vP vI : Value) (ps : List S36) (is : List Int) (w : World) : Prop where
  sb : SB w B p vP vI 0
  rowP : Kd.R k36 39 w w0.heap.size (fun k => k ≠ B ∧ some k ≠ vI.ownBlock) vP ps
  rowI : Kd.R (Kd.int .u8) 5 w w0.heap.size (fun k => k ≠ B) vI is
  bel : Below w0.heap.size w0 w
  hB : w0.heap.size ≤ B
theorem PMid.inter {w0 : World} {B N : Nat} {p v : Int} {m q : Bool} {vP : Value} {acc : List S36} {w : World} (h : PMid w0 B N p v m q vP acc w) : IInv w0 B p vP (.slice none 0 0) acc [] w :=
  ⟨h.sb, Kd.R_mono h.row (fun k hk => ⟨hk.1, by simp [Value.ownBlock]⟩), Kd.R_nil _ _ _ _ _, h.bel, h.hB⟩
theorem IInv.app {w0 : World} {B : Nat} {p c : Int} {vP vI : Value} {ps : List S36} {is : List Int} {w : World} (h : IInv w0 B p vP vI ps is w) {v1 : Value} {w1 : World}
    (hr : Kd.R (Kd.int .u8) 5 w1 w0.heap.size (fun k => k ≠ B) v1 (is ++ [c])) (hb : Below w0.heap.size w0 w1) (hg : w.grownBy w1 vI.ownBlock) (hat : v1.ownBlock = vI.ownBlock ∨ ∃ b, v1.ownBlock = some b ∧ w.heap.size ≤ b) :
    IInv w0 B p vP v1 ps (is ++ [c]) (w1.setCell ⟨B, 3, none⟩ v1) := by
  have hB := h.hB
  have eB := hg.block B (lt_of_block h.sb) (fun e => (h.rowI.1 B e.symm) rfl)
  have hP := Kd.R_mono (Kd.R_grown (Kd.R_bound h.rowP) hg (fun k hk => hk.1.2)) (ok' := fun k => k ≠ B ∧ some k ≠ v1.ownBlock) (fun k hk => ⟨hk.1.1, by
    rcases hat with hat | ⟨b, hb', hle⟩
    · rw [hat]; exact hk.1.2
    · rw [hb']
      intro e
      injection e with e
      have := hk.2.2.1
      omega⟩)
  exact ⟨cell_set (eB.trans h.sb) _, Kd.R_far hP (fun k hk => hk.1) _, Kd.R_far hr (fun k hk => hk) _, hb.setCell hB _, hB⟩

theorem within_yes (c lo hi : Int) (w : World) (h1 : lo ≤ c) (h2 : c ≤ hi) : Calls Tryd.prog 19 #[.int .u8 c, .int .u8 lo, .int .u8 hi] w fun e w' => e = .returned (.bool true) ∧ w = w' := by
  have t1 : decide (lo ≤ c) = true := decide_eq_true h1
  have t2 : decide (c ≤ hi) = true := decide_eq_true h2
  go_enter Tryd.func19, Tryd.ntmps19
  go_wp2
  go_ret
  exact ⟨rfl, rfl⟩
theorem within_no (c lo hi : Int) (w : World) (h : c < lo ∨ hi < c) : Calls Tryd.prog 19 #[.int .u8 c, .int .u8 lo, .int .u8 hi] w fun e w' => e = .returned (.bool false) ∧ w = w' := by
  by_cases h1 : lo ≤ c
  · have t1 : decide (lo ≤ c) = true := decide_eq_true h1
    have t2 : decide (c ≤ hi) = false := decide_eq_false (by omega)
    clear h h1
    go_enter Tryd.func19, Tryd.ntmps19
    go_wp2
    go_ret
    exact ⟨rfl, rfl⟩
  · have t1 : decide (lo ≤ c) = false := decide_eq_false h1
    clear h h1
    go_enter Tryd.func19, Tryd.ntmps19
    go_wp2
    go_ret
    exact ⟨rfl, rfl⟩
/-- 'within', told as one Bool. -/
def wB (c lo hi : Int) : Bool := decide (lo ≤ c) && decide (c ≤ hi)
theorem wB_yes {c lo hi : Int} (h1 : lo ≤ c) (h2 : c ≤ hi) : wB c lo hi = true := by unfold wB; rw [decide_eq_true h1, decide_eq_true h2]; rfl
theorem wB_no {c lo hi : Int} (h : c < lo ∨ hi < c) : wB c lo hi = false := by
  unfold wB
  rcases h with h | h
  · rw [decide_eq_false (by omega)]; rfl
  · rw [decide_eq_false (by omega : ¬ c ≤ hi), Bool.and_false]
theorem within_any (c lo hi : Int) (w : World) : Calls Tryd.prog 19 #[.int .u8 c, .int .u8 lo, .int .u8 hi] w fun e w' => e = .returned (.bool (wB c lo hi)) ∧ w = w' := by
  by_cases h : lo ≤ c ∧ c ≤ hi
  · rw [wB_yes h.1 h.2]; exact within_yes c lo hi w h.1 h.2
  · have h' : c < lo ∨ hi < c := by omega
    rw [wB_no h']; exact within_no c lo hi w h'
theorem within_b (c lo hi : Int) (b : Bool) (h : wB c lo hi = b) (w : World) : Calls Tryd.prog 19 #[.int .u8 c, .int .u8 lo, .int .u8 hi] w fun e w' => e = .returned (.bool b) ∧ w = w' := h ▸ within_any c lo hi w
theorem infoP : (Tryd.prog.info? 39).map (fun i => (i.zero, i.size, i.bytes)) = some (some (.agg #[.int .i64 0, .bool false, .bool false]), 3, 16) := by kernel_rfl
theorem infoB : (Tryd.prog.info? 5).map (fun i => (i.zero, i.size, i.bytes)) = some (some (.int .u8 0), 1, 1) := by kernel_rfl
/-! #### one byte of the parameters -/
theorem scan_at {r : List Int} {k : Nat} {a : List S36} {x : Int} {y : Bool} {R : List S36 × Int × Bool × List Int} (h : scanP (r.drop k) a x y = some R) (hk : k < r.length) :
    scanP (r.getD k 0 :: r.drop (k + 1)) a x y = some R := by
  have e : r.drop k = r.getD k 0 :: r.drop (k + 1) := by
    rw [List.drop_eq_getElem_cons hk]
    simp [List.getD_eq_getElem?_getD, hk]
  rw [e] at h
  exact h
theorem scan_semi {c : Int} {t : List Int} {a : List S36} {x : Int} {y : Bool} {R : List S36 × Int × Bool × List Int} (h : scanP (c :: t) a x y = some R) (hc : c = 59) : scanP t (a ++ [⟨x, y, false⟩]) 0 true = some R := by
  unfold scanP at h
  rw [if_pos (by omega), if_pos hc] at h
  exact h
theorem scan_colon {c : Int} {t : List Int} {a : List S36} {x : Int} {y : Bool} {R : List S36 × Int × Bool × List Int} (h : scanP (c :: t) a x y = some R) (hc : c = 58) : scanP t (a ++ [⟨x, y, true⟩]) 0 true = some R := by
  unfold scanP at h
  rw [if_pos (by omega), if_neg (by omega), if_pos hc] at h
  exact h
theorem scan_digit {c : Int} {t : List Int} {a : List S36} {x : Int} {y : Bool} {R : List S36 × Int × Bool × List Int} (h : scanP (c :: t) a x y = some R) (h1 : 48 ≤ c) (h2 : c ≤ 57) : x ≤ 100000 ∧ scanP t a (x * 10 + (c - 48)) false = some R := by
  unfold scanP at h
  rw [if_pos (by omega), if_neg (by omega), if_neg (by omega)] at h
  by_cases hx : x > 100000
  · rw [if_pos hx] at h; cases h
  · rw [if_neg hx] at h
    exact ⟨by omega, h⟩
theorem scan_stop {c : Int} {t : List Int} {a : List S36} {x : Int} {y : Bool} {acc : List S36} {v : Int} {m : Bool} {t2 : List Int} (h : scanP (c :: t) a x y = some (acc, v, m, t2)) (hc : ¬ (48 ≤ c ∧ c ≤ 59)) : acc = a ∧ v = x ∧ m = y ∧ t2 = c :: t := by
  unfold scanP at h
  rw [if_neg hc] at h
  simp only [Option.some.injEq, Prod.mk.injEq] at h
  exact ⟨h.1.symm, h.2.1.symm, h.2.2.1.symm, h.2.2.2.symm⟩
theorem scan_nil {a : List S36} {x : Int} {y : Bool} {acc : List S36} {v : Int} {m : Bool} {t2 : List Int} (h : scanP [] a x y = some (acc, v, m, t2)) : t2 = [] := by
  unfold scanP at h
  simp only [Option.some.injEq, Prod.mk.injEq] at h
  exact h.2.2.2.symm
/-! #### one byte of the intermediates -/
theorem inter_at {r : List Int} {k : Nat} {i : List Int} {R : List Int × List Int} (h : scanI (r.drop k) i = R) (hk : k < r.length) : scanI (r.getD k 0 :: r.drop (k + 1)) i = R := by
  have e : r.drop k = r.getD k 0 :: r.drop (k + 1) := by
    rw [List.drop_eq_getElem_cons hk]
    simp [List.getD_eq_getElem?_getD, hk]
  rw [e] at h
  exact h
theorem inter_yes {c : Int} {t i : List Int} {R : List Int × List Int} (h : scanI (c :: t) i = R) (h1 : 32 ≤ c ∧ c ≤ 47) : scanI t (i ++ [c]) = R := by
  unfold scanI at h
  rw [if_pos h1] at h
  exact h
theorem inter_no {c : Int} {t i is : List Int} {f : Int} (h : scanI (c :: t) i = (is, [f])) (h1 : ¬ (32 ≤ c ∧ c ≤ 47)) : is = i ∧ c = f ∧ t = [] := by
  unfold scanI at h
  rw [if_neg h1] at h
  simp only [Prod.mk.injEq, List.cons.injEq] at h
  exact ⟨h.1.symm, h.2.1, h.2.2⟩
theorem inter_lt {r : List Int} {k : Nat} {i is : List Int} {f : Int} (h : scanI (r.drop k) i = (is, [f])) : k < r.length := by
  rcases Nat.lt_or_ge k r.length with h1 | h1
  · exact h1
  · rw [List.drop_of_length_le h1] at h
    simp [scanI] at h
theorem IInv.app' {w0 : World} {B : Nat} {p c : Int} {vP vI : Value} {ps : List S36} {is : List Int} {w : World} (h : IInv w0 B p vP vI ps is w) {A1 : Option Addr} {c1 : Nat} {w1 : World}
    (hr : Kd.R (Kd.int .u8) 5 w1 w0.heap.size (fun k => k ≠ B) (.slice A1 (is ++ [c]).length c1) (is ++ [c])) (hb : Below w0.heap.size w0 w1) (hg : w.drew.grownBy w1 vI.ownBlock) (hat : (Value.slice A1 (is ++ [c]).length c1).ownBlock = vI.ownBlock ∨ ∃ b, (Value.slice A1 (is ++ [c]).length c1).ownBlock = some b ∧ w.drew.heap.size ≤ b) :
    IInv w0 B p vP (.slice A1 (is.length + 1) c1) ps (is ++ [c]) (w1.setCell ⟨B, 3, none⟩ (.slice A1 (is.length + 1) c1)) := by
  have e : (is ++ [c]).length = is.length + 1 := by simp
  rw [e] at hr hat
  have hd : IInv w0 B p vP vI ps is w.drew := ⟨h.sb, Kd.R_drew h.rowP, Kd.R_drew h.rowI, below_drew1 h.bel, h.hB⟩
  exact hd.app hr hb hg hat
end Go.Proofs.YtakjcihjkagnfaaDoor.Or
