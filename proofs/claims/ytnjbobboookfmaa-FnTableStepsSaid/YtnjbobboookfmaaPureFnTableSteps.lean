/- The plain law of FnTableSteps: a table that is made answers what was set last, as the reference says. No memory. -/
import Derived.Test.YtnjbobboookfmaaPBx4
import Derived.Laws.BitsLemmas
namespace Go.Proofs.Ytnjbobboookfmaa.Pure
open Go Go.RowKit Go.Proofs.Ytnjbobboookfmaa.PB Go.Proofs.Ytnjbobboookfmaa.Or Go.Proofs.YtnjbobboookfmaaW.PrintWords Go.Proofs.YtnjbobboookfmaaW.PrintLast
set_option linter.unusedVariables false
set_option linter.unusedSimpArgs false

/-- From some number of rounds on. -/
def Ev (P : Nat → Prop) : Prop := ∃ K, ∀ k, K ≤ k → P k
theorem Ev.all {P : Nat → Prop} (h : ∀ k, P k) : Ev P := ⟨0, fun k _ => h k⟩
theorem Ev.succ {P Q : Nat → Prop} (h : Ev Q) (hs : ∀ k, Q k → P (k + 1)) : Ev P := by
  obtain ⟨K, h⟩ := h
  refine ⟨K + 1, fun k hk => ?_⟩
  obtain ⟨j, rfl⟩ : ∃ j, k = j + 1 := ⟨k - 1, by omega⟩
  exact hs j (h j (by omega))
theorem Ev.imp {P Q : Nat → Prop} (h : Ev Q) (hs : ∀ k, Q k → P k) : Ev P := by
  obtain ⟨K, h⟩ := h
  exact ⟨K, fun k hk => hs k (h k hk)⟩
theorem Ev.and {P Q : Nat → Prop} (h : Ev P) (g : Ev Q) : Ev fun k => P k ∧ Q k := by
  obtain ⟨K, h⟩ := h
  obtain ⟨L, g⟩ := g
  exact ⟨K + L, fun k hk => ⟨h k (by omega), g k (by omega)⟩⟩

def v (a n : Int) : Int := Go.bits .or .u8 ((a * 16) % 256) n
def ix (s c : Int) : Int := Go.bits .or .i64 (wrap64 ((wrap64 s) * 256)) (wrap64 c)
theorem w64 {x : Int} (h0 : -9223372036854775808 ≤ x) (h1 : x ≤ 9223372036854775807) : wrap64 x = x := by unfold wrap64; omega
theorem wraps12 (n : Int) (h₀ : 0 ≤ n) (h₁ : n < 2 ^ 12) : IntKind.i64.wrap n = n := by rw [IntKind.wrap_i64]; omega
theorem ix_eq {s c : Int} (h0 : 0 ≤ s) (h1 : s ≤ 15) (h2 : 0 ≤ c) (h3 : c < 256) : ix s c = s * 256 + c := by
  have e1 : wrap64 s = s := w64 (by omega) (by omega)
  have e2 : wrap64 c = c := w64 (by omega) (by omega)
  have e3 : wrap64 (s * 256) = s * 256 := w64 (by omega) (by omega)
  have p12 : (2 : Int) ^ 12 = 4096 := rfl
  have p8 : (2 : Int) ^ 8 = 256 := rfl
  unfold ix
  rw [e1, e2, e3]
  exact bits_join .i64 12 (by decide) wraps12 8 (s * 256) c (by omega) (by rw [p8]; omega) (by rw [p12]; omega) h2 (by rw [p8]; exact h3) (by rw [p12]; omega)
theorem ix_lt {s c : Int} (h0 : 0 ≤ s) (h1 : s ≤ 15) (h2 : 0 ≤ c) (h3 : c < 256) : 0 ≤ ix s c ∧ ix s c < 4096 := by
  rw [ix_eq h0 h1 h2 h3]
  omega
theorem tm {s : Int} (h0 : 0 ≤ s) (h1 : s ≤ 15) : Int.tmod s 16 = s := by
  rw [Int.tmod_eq_emod_of_nonneg h0]
  omega

def fill : Nat → List Int → Int → Nat → List Int
  | 0, t, _, _ => t
  | m + 1, t, x, i => fill m (t.set i x) x (i + 1)
theorem fill_len : ∀ m t x i, (fill m t x i).length = t.length
  | 0, _, _, _ => rfl
  | m + 1, t, x, i => by
    show (fill m (t.set i x) x (i + 1)).length = _
    rw [fill_len m, List.length_set]
def many (t : List Int) (s x : Int) (l : List Int) : List Int := l.foldl (fun t c => t.set (ix s c).toNat x) t
theorem many_len (s x : Int) : ∀ (l t : List Int), (many t s x l).length = t.length
  | [], _ => rfl
  | c :: l, t => by
    show (many (t.set _ x) s x l).length = _
    rw [many_len s x l, List.length_set]
def rng : Nat → List Int → Int → Int → Int → List Int
  | 0, t, _, _, _ => t
  | m + 1, t, s, x, c => rng m (t.set (ix s c).toNat x) s x (c + 1)
theorem rng_len : ∀ m t s x c, (rng m t s x c).length = t.length
  | 0, _, _, _, _ => rfl
  | m + 1, t, s, x, c => by
    show (rng m (t.set _ x) s x (c + 1)).length = _
    rw [rng_len m, List.length_set]
/-- What a step does to a table. -/
def stp (t : List Int) (s : S27) : List Int :=
  if s.f0 = 0 then fill t.length t (v s.f5 s.f6) 0 else if s.f0 = 1 then t.set (ix s.f1 s.f2).toNat (v s.f5 s.f6) else if s.f0 = 2 then many t s.f1 (v s.f5 s.f6) s.f4 else rng (s.f3 + 1 - s.f2).toNat t s.f1 (v s.f5 s.f6) s.f2
theorem stp_len (t : List Int) (s : S27) : (stp t s).length = t.length := by
  unfold stp
  split
  · exact fill_len _ _ _ _
  · split
    · exact List.length_set
    · split
      · exact many_len _ _ _ _
      · exact rng_len _ _ _ _ _
theorem fold_len : ∀ (l : List S27) (t : List Int), (l.foldl stp t).length = t.length
  | [], _ => rfl
  | s :: l, t => by rw [List.foldl_cons, fold_len l, stp_len]

structure Ok (s : S27) : Prop where
  op0 : 0 ≤ s.f0
  op3 : s.f0 ≤ 3
  s0 : 0 ≤ s.f1
  s15 : s.f1 ≤ 15
  c0 : 0 ≤ s.f2
  c255 : s.f2 < 256
  e0 : 0 ≤ s.f3
  e255 : s.f3 < 256
  l : ∀ x ∈ s.f4, 0 ≤ x ∧ x < 256
  len : s.f4.length ≤ 300

/- the table's own methods -/
theorem setdef (a n : Int) : ∀ (m i : Nat) (t : List Int) (L : Int), L = t.length → i + m = t.length → t.length ≤ 100000 → Ev fun k => parser_TransitionTable_SetDefault.l0 k t a n L (i : Int) = some (fill m t (v a n) i)
  | 0, i, t, L, hL, hi, hn => (Ev.all (P := fun _ => True) (fun _ => trivial)).succ fun k _ => by
    unfold parser_TransitionTable_SetDefault.l0
    rw [if_neg (by omega)]
    rfl
  | m + 1, i, t, L, hL, hi, hn => (setdef a n m (i + 1) (t.set i (v a n)) L (by rw [List.length_set]; exact hL) (by rw [List.length_set]; omega) (by rw [List.length_set]; exact hn)).succ fun k h => by
    unfold parser_TransitionTable_SetDefault.l0
    rw [if_pos (by omega), if_pos (by omega), if_pos (by omega), w64 (x := (i : Int) + 1) (by omega) (by omega)]
    exact h
theorem addone {t : List Int} {c s a n : Int} (ht : t.length = 4096) (h0 : 0 ≤ s) (h1 : s ≤ 15) (h2 : 0 ≤ c) (h3 : c < 256) : parser_TransitionTable_AddOne.f t c s a n = some (t.set (ix s c).toNat (v a n)) := by
  have h := ix_lt h0 h1 h2 h3
  unfold ix at h
  unfold parser_TransitionTable_AddOne.f
  rw [if_pos h.1, if_pos (by rw [ht]; exact h.2)]
  rfl
theorem rd_at (l : List Int) (i : Nat) : rd l (i : Int) = l.getD i 0 := by
  unfold rd
  rw [Int.toNat_natCast]
theorem drop_cons {α : Type} (l : List α) (z : α) (i : Nat) (h : i < l.length) : l.drop i = l.getD i z :: l.drop (i + 1) := by
  rw [List.drop_eq_getElem_cons h]
  simp [List.getD_eq_getElem?_getD, h]
theorem getD_mem {α : Type} (l : List α) (z : α) (i : Nat) (h : i < l.length) : l.getD i z ∈ l := by
  rw [List.getD_eq_getElem?_getD, List.getElem?_eq_getElem h]
  exact List.getElem_mem h
theorem addmany (s a n : Int) (cs : List Int) (hc : ∀ x ∈ cs, 0 ≤ x ∧ x < 256) (h0 : 0 ≤ s) (h1 : s ≤ 15) (hl : cs.length ≤ 100000) : ∀ (m i : Nat) (t : List Int), t.length = 4096 → i + m = cs.length → Ev fun k => parser_TransitionTable_AddMany.l0 k t s a n cs (cs.length : Int) (i : Int) = some (many t s (v a n) (cs.drop i))
  | 0, i, t, ht, hi => (Ev.all (P := fun _ => True) (fun _ => trivial)).succ fun k _ => by
    unfold parser_TransitionTable_AddMany.l0
    rw [if_neg (by omega), List.drop_eq_nil_of_le (by omega)]
    rfl
  | m + 1, i, t, ht, hi => by
    have hm := hc _ (getD_mem cs 0 i (by omega))
    refine (addmany s a n cs hc h0 h1 hl m (i + 1) (t.set (ix s (cs.getD i 0)).toNat (v a n)) (by rw [List.length_set]; exact ht) (by omega)).succ fun k h => ?_
    unfold parser_TransitionTable_AddMany.l0
    rw [if_pos (by omega), if_pos (by omega), if_pos (by omega), rd_at, addone ht h0 h1 hm.1 hm.2, Option.bind_some, w64 (x := (i : Int) + 1) (by omega) (by omega), drop_cons cs 0 i (by omega)]
    exact h
theorem addrange (s a n e : Int) (he0 : 0 ≤ e) (he : e < 256) (h0 : 0 ≤ s) (h1 : s ≤ 15) : ∀ (m : Nat) (c : Int) (t : List Int), t.length = 4096 → 0 ≤ c → m = (e + 1 - c).toNat → Ev fun k => parser_TransitionTable_AddRange.l0 k t e s a n c = some (rng m t s (v a n) c)
  | 0, c, t, ht, hc, hm => (Ev.all (P := fun _ => True) (fun _ => trivial)).succ fun k _ => by
    unfold parser_TransitionTable_AddRange.l0
    rw [if_neg (by rw [w64 (by omega) (by omega)]; omega)]
    rfl
  | m + 1, c, t, ht, hc, hm => by
    refine (addrange s a n e he0 he h0 h1 m (c + 1) (t.set (ix s c).toNat (v a n)) (by rw [List.length_set]; exact ht) (by omega) (by omega)).succ fun k h => ?_
    unfold parser_TransitionTable_AddRange.l0
    rw [if_pos (by rw [w64 (by omega) (by omega)]; omega), show c % 256 = c by omega, addone ht h0 h1 hc (by omega), Option.bind_some, w64 (x := c + 1) (by omega) (by omega)]
    exact h

/-- A step as the code has it. -/
def g (s : S27) : S30 := ⟨s.f0, s.f2, s.f3, s.f1, s.f5, s.f6, s.f4⟩
theorem rd27 (l : List S27) (i : Nat) : rd_T27 l (i : Int) = l.getD i z27 := by unfold rd_T27; rw [Int.toNat_natCast]
theorem rd30 (l : List S27) (i : Nat) (h : i < l.length) : rd_T30 (l.map g) (i : Int) = g (l.getD i z27) := by
  unfold rd_T30
  rw [Int.toNat_natCast, List.getD_eq_getElem?_getD, List.getElem?_map, List.getElem?_eq_getElem h, List.getD_eq_getElem?_getD, List.getElem?_eq_getElem h]
  rfl
theorem rd32 (l : List S32) (i : Nat) : rd_T32 l (i : Int) = l.getD i z32 := by unfold rd_T32; rw [Int.toNat_natCast]
theorem rd39 (l : List S39) (i : Nat) : rd_T39 l (i : Int) = l.getD i z39 := by unfold rd_T39; rw [Int.toNat_natCast]

def ans (t : List Int) (a : S32) : S39 := ⟨Go.bits .and .u8 (rd t (ix (Int.tmod a.f0 16) a.f1)) 15, (rd t (ix (Int.tmod a.f0 16) a.f1)) / 16⟩
def OkA (a : S32) : Prop := 0 ≤ a.f0 ∧ a.f0 ≤ 15 ∧ 0 ≤ a.f1 ∧ a.f1 < 256
theorem asked {t : List Int} {a : S32} (ht : t.length = 4096) (h : OkA a) : parser_TransitionTable_Transition.f t (Int.tmod a.f0 16) a.f1 = some ((ans t a).f0, (ans t a).f1) := by
  have e := tm h.1 h.2.1
  have hx := ix_lt (s := Int.tmod a.f0 16) (c := a.f1) (by rw [e]; exact h.1) (by rw [e]; exact h.2.1) h.2.2.1 h.2.2.2
  unfold ix at hx
  unfold parser_TransitionTable_Transition.f
  rw [if_pos hx.1, if_pos (by rw [ht]; exact hx.2)]
  rfl
theorem answers (t : List Int) (ht : t.length = 4096) (q : List S32) (hq : ∀ a ∈ q, OkA a) (hl : q.length ≤ 100000) : ∀ (m i : Nat) (acc : List S39), i + m = q.length → acc.length = i → Ev fun k => impl_TableRun.l1 k t acc q (q.length : Int) (i : Int) = some (acc ++ (q.drop i).map (ans t))
  | 0, i, acc, hi, ha => (Ev.all (P := fun _ => True) (fun _ => trivial)).succ fun k _ => by
    unfold impl_TableRun.l1
    rw [if_neg (by omega), List.drop_eq_nil_of_le (by omega)]
    simp
  | m + 1, i, acc, hi, ha => by
    refine (answers t ht q hq hl m (i + 1) (acc ++ [ans t (q.getD i z32)]) (by omega) (by rw [List.length_append, ha]; rfl)).succ fun k h => ?_
    unfold impl_TableRun.l1
    rw [if_pos (by omega), if_pos (by omega), if_pos (by omega), rd32, asked ht (hq _ (getD_mem q z32 i (by omega))), Option.bind_some, if_pos (by omega), w64 (x := (i : Int) + 1) (by omega) (by omega), drop_cons q z32 i (by omega), List.map_cons]
    have h' := h
    rw [List.append_assoc] at h'
    exact h'
theorem runs (l : List S27) (hl : ∀ s ∈ l, Ok s) (hn : l.length ≤ 100000) (q : List S32) (hq : ∀ a ∈ q, OkA a) (hql : q.length ≤ 100000) : ∀ (m i : Nat) (t : List Int), t.length = 4096 → i + m = l.length → Ev fun k => impl_TableRun.l0 k q t (l.map g) (l.length : Int) (i : Int) = some (q.map (ans ((l.drop i).foldl stp t)))
  | 0, i, t, ht, hi => (answers t ht q hq hql q.length 0 [] (by omega) rfl).succ fun k h => by
    have hz : l.drop i = [] := List.drop_eq_nil_of_le (by omega)
    unfold impl_TableRun.l0
    rw [if_neg (by omega), hz]
    have h' := h
    rw [List.drop_zero, List.nil_append] at h'
    exact h'
  | m + 1, i, t, ht, hi => by
    have ho := hl _ (getD_mem l z27 i (by omega))
    have hr := runs l hl hn q hq hql m (i + 1) (stp t (l.getD i z27)) (by rw [stp_len]; exact ht) (by omega)
    have hd := drop_cons l z27 i (by omega)
    have hg := rd30 l i (by omega)
    generalize l.getD i z27 = s at ho hr hd hg
    have h1 : (i : Int) < (l.length : Int) := by omega
    have h2 : (0 : Int) ≤ (i : Int) := by omega
    have h3 : (i : Int) < ((l.map g).length : Int) := by rw [List.length_map]; exact h1
    have hw : wrap64 ((i : Int) + 1) = ((i + 1 : Nat) : Int) := w64 (by omega) (by omega)
    have e := tm ho.s0 ho.s15
    rcases (show s.f0 = 0 ∨ s.f0 = 1 ∨ s.f0 = 2 ∨ s.f0 = 3 from by have := ho.op0; have := ho.op3; omega) with h | h | h | h
    · have hx := setdef s.f5 s.f6 t.length 0 t t.length rfl (by omega) (by omega)
      refine (hx.and hr).succ fun k hk => ?_
      unfold impl_TableRun.l0 parser_TransitionTable_SetDefault.f
      rw [if_pos h1, if_pos h2, if_pos h3, hg]
      show (if s.f0 = 0 then _ else _) = _
      rw [if_pos h, hw, hd, List.foldl_cons]
      have e2 : stp t s = fill t.length t (v s.f5 s.f6) 0 := by unfold stp; rw [if_pos h]
      rw [e2] at hk ⊢
      have h5 := hk.1
      rw [show ((0 : Nat) : Int) = 0 from rfl] at h5
      show (parser_TransitionTable_SetDefault.l0 k t s.f5 s.f6 (t.length : Int) 0).bind _ = _
      rw [h5, Option.bind_some]
      exact hk.2
    · refine hr.succ fun k hk => ?_
      unfold impl_TableRun.l0
      rw [if_pos h1, if_pos h2, if_pos h3, hg]
      show (if s.f0 = 0 then _ else if s.f0 = 1 then (parser_TransitionTable_AddOne.f t s.f2 (Int.tmod s.f1 16) s.f5 s.f6).bind _ else _) = _
      rw [if_neg (by omega), if_pos h, e, addone ht ho.s0 ho.s15 ho.c0 ho.c255, Option.bind_some, hw, hd, List.foldl_cons]
      have e2 : stp t s = t.set (ix s.f1 s.f2).toNat (v s.f5 s.f6) := by unfold stp; rw [if_neg (by omega), if_pos h]
      rw [e2] at hk ⊢
      exact hk
    · have hx := addmany s.f1 s.f5 s.f6 s.f4 ho.l ho.s0 ho.s15 (by have := ho.len; omega) s.f4.length 0 t ht (by omega)
      refine (hx.and hr).succ fun k hk => ?_
      unfold impl_TableRun.l0 parser_TransitionTable_AddMany.f impl_own.f
      rw [if_pos h1, if_pos h2, if_pos h3, hg]
      show (if s.f0 = 0 then _ else if s.f0 = 1 then _ else if s.f0 = 2 then ((if ([] : List Int).length + s.f4.length < 140737488355328 then some (([] : List Int) ++ s.f4) else none).bind fun t127 => ((parser_TransitionTable_AddMany.l0 k t (Int.tmod s.f1 16) s.f5 s.f6 t127 (t127.length : Int) 0).bind _)) else _) = _
      have h300 := ho.len
      rw [if_neg (by omega), if_neg (by omega), if_pos h, if_pos (by rw [List.length_nil]; omega), Option.bind_some, List.nil_append, e, hw, hd, List.foldl_cons]
      have e2 : stp t s = many t s.f1 (v s.f5 s.f6) s.f4 := by unfold stp; rw [if_neg (by omega), if_neg (by omega), if_pos h]
      have h5 := hk.1
      rw [show ((0 : Nat) : Int) = 0 from rfl, List.drop_zero] at h5
      rw [h5, Option.bind_some, e2]
      have h6 := hk.2
      rw [e2] at h6
      exact h6
    · have hx := addrange s.f1 s.f5 s.f6 s.f3 ho.e0 ho.e255 ho.s0 ho.s15 (s.f3 + 1 - s.f2).toNat s.f2 t ht ho.c0 rfl
      refine (hx.and hr).succ fun k hk => ?_
      unfold impl_TableRun.l0 parser_TransitionTable_AddRange.f
      rw [if_pos h1, if_pos h2, if_pos h3, hg]
      show (if s.f0 = 0 then _ else if s.f0 = 1 then _ else if s.f0 = 2 then _ else if s.f0 = 3 then ((parser_TransitionTable_AddRange.l0 k t s.f3 (Int.tmod s.f1 16) s.f5 s.f6 (wrap64 s.f2)).bind _) else _) = _
      have hc0 := ho.c0
      have hc1 := ho.c255
      rw [if_neg (by omega), if_neg (by omega), if_neg (by omega), if_pos h, e, w64 (x := s.f2) (by omega) (by omega), hk.1, Option.bind_some, hw, hd, List.foldl_cons]
      have e2 : stp t s = rng (s.f3 + 1 - s.f2).toNat t s.f1 (v s.f5 s.f6) s.f2 := by unfold stp; rw [if_neg (by omega), if_neg (by omega), if_neg (by omega)]
      rw [e2] at hk ⊢
      exact hk.2

/- the reference -/
theorem hix (s c : Int) : Go.bits .or .i64 (wrap64 ((wrap64 s) * 256)) (wrap64 c) = ix s c := rfl
theorem hv (a n : Int) : Go.bits .or .u8 ((a * 16) % 256) n = v a n := rfl
theorem sfill (l : List S27) (n i x : Int) (r : List Int) : ∀ (m j : Nat) (t : List Int) (N : Int), N = t.length → j + m = t.length → t.length ≤ 100000 → Ev (fun k => spec_TableOf.l0 k (fill m t x j) l n (wrap64 (i + 1)) = some r) → Ev fun k => spec_TableOf.l1 k t x l n i N (j : Int) = some r
  | 0, j, t, N, hN, hj, ht, he => he.succ fun k h => by
    unfold spec_TableOf.l1
    rw [if_neg (by omega)]
    exact h
  | m + 1, j, t, N, hN, hj, ht, he => (sfill l n i x r m (j + 1) (t.set j x) N (by rw [List.length_set]; exact hN) (by rw [List.length_set]; omega) (by rw [List.length_set]; exact ht) he).succ fun k h => by
    unfold spec_TableOf.l1
    rw [if_pos (by omega), if_pos (by omega), if_pos (by omega), w64 (x := (j : Int) + 1) (by omega) (by omega)]
    exact h
theorem smany (l : List S27) (n i x s : Int) (r cs : List Int) (hc : ∀ x ∈ cs, 0 ≤ x ∧ x < 256) (h0 : 0 ≤ s) (h1 : s ≤ 15) (hl : cs.length ≤ 100000) (a0 a2 a3 a5 a6 : Int) (a4 : List Int) : ∀ (m j : Nat) (t : List Int), t.length = 4096 → j + m = cs.length → Ev (fun k => spec_TableOf.l0 k (many t s x (cs.drop j)) l n (wrap64 (i + 1)) = some r) →
    Ev fun k => spec_TableOf.l2 k t x l n i cs (cs.length : Int) (j : Int) a0 s a2 a3 a4 a5 a6 = some r
  | 0, j, t, ht, hj, he => he.succ fun k h => by
    unfold spec_TableOf.l2
    rw [if_neg (by omega)]
    rw [List.drop_eq_nil_of_le (by omega)] at h
    exact h
  | m + 1, j, t, ht, hj, he => by
    have hm := hc _ (getD_mem cs 0 j (by omega))
    rw [drop_cons cs 0 j (by omega)] at he
    refine (smany l n i x s r cs hc h0 h1 hl a0 a2 a3 a5 a6 a4 m (j + 1) (t.set (ix s (cs.getD j 0)).toNat x) (by rw [List.length_set]; exact ht) (by omega) he).succ fun k h => ?_
    have hx := ix_lt h0 h1 hm.1 hm.2
    unfold ix at hx
    unfold spec_TableOf.l2
    rw [if_pos (by omega), if_pos (by omega), if_pos (by omega), rd_at, if_pos hx.1, if_pos (by rw [ht]; exact hx.2), w64 (x := (j : Int) + 1) (by omega) (by omega)]
    exact h
theorem srange (l : List S27) (n i x s e : Int) (r : List Int) (he0 : 0 ≤ e) (he1 : e < 256) (h0 : 0 ≤ s) (h1 : s ≤ 15) (a0 a2 a5 a6 : Int) (a4 : List Int) : ∀ (m : Nat) (c : Int) (t : List Int), t.length = 4096 → 0 ≤ c → m = (e + 1 - c).toNat → Ev (fun k => spec_TableOf.l0 k (rng m t s x c) l n (wrap64 (i + 1)) = some r) →
    Ev fun k => spec_TableOf.l3 k t x c l n i a0 s a2 e a4 a5 a6 = some r
  | 0, c, t, ht, hc, hm, he => he.succ fun k h => by
    unfold spec_TableOf.l3
    rw [if_neg (by rw [w64 (by omega) (by omega)]; omega)]
    exact h
  | m + 1, c, t, ht, hc, hm, he => by
    refine (srange l n i x s e r he0 he1 h0 h1 a0 a2 a5 a6 a4 m (c + 1) (t.set (ix s c).toNat x) (by rw [List.length_set]; exact ht) (by omega) (by omega) he).succ fun k h => ?_
    have hx := ix_lt (c := c) h0 h1 hc (by omega)
    have hw : wrap64 c = c := w64 (by omega) (by omega)
    unfold spec_TableOf.l3
    have hq : Go.bits .or .i64 (wrap64 ((wrap64 s) * 256)) c = ix s c := by unfold ix; rw [hw]
    rw [← hq] at hx
    rw [if_pos (by rw [w64 (by omega) (by omega)]; omega), if_pos hx.1, if_pos (by rw [ht]; exact hx.2), w64 (x := c + 1) (by omega) (by omega), hq]
    exact h
theorem sruns (l : List S27) (hl : ∀ s ∈ l, Ok s) (hn : l.length ≤ 100000) : ∀ (m i : Nat) (t : List Int), t.length = 4096 → i + m = l.length → Ev fun k => spec_TableOf.l0 k t l (l.length : Int) (i : Int) = some ((l.drop i).foldl stp t)
  | 0, i, t, ht, hi => (Ev.all (P := fun _ => True) (fun _ => trivial)).succ fun k _ => by
    have hz : l.drop i = [] := List.drop_eq_nil_of_le (by omega)
    unfold spec_TableOf.l0
    rw [if_neg (by omega), hz]
    rfl
  | m + 1, i, t, ht, hi => by
    have ho := hl _ (getD_mem l z27 i (by omega))
    have hr := sruns l hl hn m (i + 1) (stp t (l.getD i z27)) (by rw [stp_len]; exact ht) (by omega)
    have hd := drop_cons l z27 i (by omega)
    have hg := rd27 l i
    generalize l.getD i z27 = s at ho hr hd hg
    have h1 : (i : Int) < (l.length : Int) := by omega
    have h2 : (0 : Int) ≤ (i : Int) := by omega
    have hw : wrap64 ((i : Int) + 1) = ((i + 1 : Nat) : Int) := w64 (by omega) (by omega)
    rw [hd, List.foldl_cons]
    rw [← hw] at hr
    rcases (show s.f0 = 0 ∨ s.f0 = 1 ∨ s.f0 = 2 ∨ s.f0 = 3 from by have := ho.op0; have := ho.op3; omega) with h | h | h | h
    · have e2 : stp t s = fill t.length t (v s.f5 s.f6) 0 := by unfold stp; rw [if_pos h]
      rw [e2] at hr ⊢
      refine (sfill l (l.length : Int) (i : Int) (v s.f5 s.f6) _ t.length 0 t t.length rfl (by omega) (by omega) hr).succ fun k hk => ?_
      unfold spec_TableOf.l0
      rw [if_pos h1, if_pos h2, if_pos h1, hg, if_pos h]
      exact hk
    · have e2 : stp t s = t.set (ix s.f1 s.f2).toNat (v s.f5 s.f6) := by unfold stp; rw [if_neg (by omega), if_pos h]
      rw [e2] at hr ⊢
      have hx := ix_lt ho.s0 ho.s15 ho.c0 ho.c255
      unfold ix at hx
      refine hr.succ fun k hk => ?_
      unfold spec_TableOf.l0
      rw [if_pos h1, if_pos h2, if_pos h1, hg, if_neg (by omega), if_pos h, if_pos hx.1, if_pos (by rw [ht]; exact hx.2)]
      exact hk
    · have e2 : stp t s = many t s.f1 (v s.f5 s.f6) s.f4 := by unfold stp; rw [if_neg (by omega), if_neg (by omega), if_pos h]
      rw [e2] at hr ⊢
      refine (smany l (l.length : Int) (i : Int) (v s.f5 s.f6) s.f1 _ s.f4 ho.l ho.s0 ho.s15 (by have := ho.len; omega) s.f0 s.f2 s.f3 s.f5 s.f6 s.f4 s.f4.length 0 t ht (by omega) hr).succ fun k hk => ?_
      unfold spec_TableOf.l0
      rw [if_pos h1, if_pos h2, if_pos h1, hg, if_neg (by omega), if_neg (by omega), if_pos h]
      exact hk
    · have e2 : stp t s = rng (s.f3 + 1 - s.f2).toNat t s.f1 (v s.f5 s.f6) s.f2 := by unfold stp; rw [if_neg (by omega), if_neg (by omega), if_neg (by omega)]
      rw [e2] at hr ⊢
      have hc0 := ho.c0
      have hc1 := ho.c255
      refine (srange l (l.length : Int) (i : Int) (v s.f5 s.f6) s.f1 s.f3 _ ho.e0 ho.e255 ho.s0 ho.s15 s.f0 s.f2 s.f5 s.f6 s.f4 (s.f3 + 1 - s.f2).toNat s.f2 t ht ho.c0 rfl hr).succ fun k hk => ?_
      unfold spec_TableOf.l0
      rw [if_pos h1, if_pos h2, if_pos h1, hg, if_neg (by omega), if_neg (by omega), if_neg (by omega), if_pos h, w64 (x := s.f2) (by omega) (by omega)]
      exact hk

/- the law -/
structure Wf (s : S27) : Prop where
  f1 : 0 ≤ s.f1 ∧ s.f1 < 256
  f2 : 0 ≤ s.f2 ∧ s.f2 < 256
  f3 : 0 ≤ s.f3 ∧ s.f3 < 256
  f4 : ∀ x ∈ s.f4, 0 ≤ x ∧ x < 256
  f5 : 0 ≤ s.f5 ∧ s.f5 < 256
  f6 : 0 ≤ s.f6 ∧ s.f6 < 256
theorem same (T : List Int) (hT : T.length = 4096) (q : List S32) (hq : ∀ a ∈ q, OkA a) (hl : q.length ≤ 100000) : ∀ (m i : Nat), i + m = q.length → Ev fun k => laws_FnTableSteps.l2 k (q.map (ans T)) T q (q.length : Int) (i : Int) = some true
  | 0, i, hi => (Ev.all (P := fun _ => True) (fun _ => trivial)).succ fun k _ => by
    unfold laws_FnTableSteps.l2
    rw [if_neg (by omega)]
  | m + 1, i, hi => (same T hT q hq hl m (i + 1) (by omega)).succ fun k h => by
    have ha := hq _ (getD_mem q z32 i (by omega))
    have hrd : rd_T39 (q.map (ans T)) (i : Int) = ans T (q.getD i z32) := by
      rw [rd39, List.getD_eq_getElem?_getD, List.getElem?_map, List.getElem?_eq_getElem (by omega), List.getD_eq_getElem?_getD, List.getElem?_eq_getElem (by omega)]
      rfl
    have hx := ix_lt ha.1 ha.2.1 ha.2.2.1 ha.2.2.2
    have e := tm ha.1 ha.2.1
    unfold ix at hx
    unfold laws_FnTableSteps.l2
    rw [if_pos (by omega), if_pos (by omega), if_pos (by omega), rd32, if_pos hx.1, if_pos (by rw [hT]; exact hx.2), if_pos (by rw [List.length_map]; omega), hrd, w64 (x := (i : Int) + 1) (by omega) (by omega)]
    unfold ans
    rw [e]
    show (if Go.bits .and .u8 (rd T (ix (q.getD i z32).f0 (q.getD i z32).f1)) 15 = Go.bits .and .u8 (rd T (ix (q.getD i z32).f0 (q.getD i z32).f1)) 15 then (if (rd T (ix (q.getD i z32).f0 (q.getD i z32).f1)) / 16 = (rd T (ix (q.getD i z32).f0 (q.getD i z32).f1)) / 16 then _ else _) else _) = _
    rw [if_pos rfl, if_pos rfl]
    exact h
def last : S27 := ⟨1, 1, 65, 0, [], 3, 2⟩
theorem ok_last : Ok last := ⟨by decide, by decide, by decide, by decide, by decide, by decide, by decide, by decide, fun x hx => (by cases hx), by decide⟩
def ask (l1 l2 : List Int) (j : Nat) : S32 := ⟨Int.tmod (l1.getD j 0) 16, l2.getD j 0⟩
def asks (l1 l2 : List Int) (j : Nat) : List S32 := ⟨1, 65⟩ :: (List.range j).map (ask l1 l2)
theorem asks_len (l1 l2 : List Int) (j : Nat) : (asks l1 l2 j).length = j + 1 := by simp [asks]
theorem asks_succ (l1 l2 : List Int) (j : Nat) : asks l1 l2 (j + 1) = asks l1 l2 j ++ [ask l1 l2 j] := by simp [asks, List.range_succ]
theorem getD_u8 {l : List Int} (h : ∀ x ∈ l, 0 ≤ x ∧ x < 256) (i : Nat) : 0 ≤ l.getD i 0 ∧ l.getD i 0 < 256 := by
  rcases Nat.lt_or_ge i l.length with hi | hi
  · exact h _ (getD_mem l 0 i hi)
  · rw [List.getD_eq_getElem?_getD, List.getElem?_eq_none hi]
    exact ⟨by decide, by decide⟩
theorem asks_ok {l1 l2 : List Int} (h1 : ∀ x ∈ l1, 0 ≤ x ∧ x < 256) (h2 : ∀ x ∈ l2, 0 ≤ x ∧ x < 256) (j : Nat) : ∀ a ∈ asks l1 l2 j, OkA a := by
  intro a ha
  rcases List.mem_cons.1 ha with rfl | ha
  · exact ⟨by decide, by decide, by decide, by decide⟩
  · obtain ⟨i, _, rfl⟩ := List.mem_map.1 ha
    have g1 := getD_u8 h1 i
    have g2 := getD_u8 h2 i
    have e : Int.tmod (l1.getD i 0) 16 = l1.getD i 0 % 16 := Int.tmod_eq_emod_of_nonneg g1.1
    refine ⟨?_, ?_, g2.1, g2.2⟩
    · show 0 ≤ Int.tmod _ _; rw [e]; omega
    · show Int.tmod _ _ ≤ 15; rw [e]; omega
theorem compared (l : List S27) (hl : ∀ s ∈ l, Ok s) (hn : l.length ≤ 20) (q : List S32) (hq : ∀ a ∈ q, OkA a) (hql : q.length ≤ 1000) (l1 l2 : List Int) :
    Ev fun k => (if (l.map g).length < 3518437208883 then (if ([] : List (S27)).length + l.length < 2932031007402 then ((some (([] : List (S27)) ++ l : List (S27))).bind fun y169 => (if y169.length < 2932031007402 then ((impl_TableRun.f k ((l.map g) ++ [(⟨1, 65, 0, 1, 3, 2, ([] : List Int)⟩ : S30)]) q).bind fun t175 => ((spec_TableOf.f k (y169 ++ [(⟨1, 1, 65, 0, ([] : List Int), 3, 2⟩ : S27)])).bind fun t178 => (if (t175.length : Int) = (q.length : Int) then (laws_FnTableSteps.l2 k t175 t178 q (q.length : Int) 0) else (some false)))) else (none))) else (none)) else (none)) = some true := by
  have hok : ∀ s ∈ l ++ [last], Ok s := fun s hs => by
    rcases List.mem_append.1 hs with h | h
    · exact hl s h
    · obtain rfl := List.mem_singleton.1 h
      exact ok_last
  have hlen : (l ++ [last]).length ≤ 100000 := by rw [List.length_append]; show l.length + 1 ≤ _; omega
  obtain ⟨T, hT⟩ : ∃ T, T = (l ++ [last]).foldl stp (List.replicate 4096 0) := ⟨_, rfl⟩
  have hTl : T.length = 4096 := by rw [hT, fold_len, List.length_replicate]
  have r1 := runs (l ++ [last]) hok hlen q hq (by omega) (l ++ [last]).length 0 (List.replicate 4096 0) (by rw [List.length_replicate]) (by omega)
  have r2 := sruns (l ++ [last]) hok hlen (l ++ [last]).length 0 (List.replicate 4096 0) (by rw [List.length_replicate]) (by omega)
  have r3 := same T hTl q hq (by omega) q.length 0 (by omega)
  rw [List.drop_zero, ← hT] at r1 r2
  refine ((r1.and r2).and r3).imp fun k hk => ?_
  obtain ⟨⟨k1, k2⟩, k3⟩ := hk
  rw [if_pos (by rw [List.length_map]; omega), if_pos (by rw [List.length_nil]; omega), Option.bind_some, List.nil_append, if_pos (by omega)]
  have em : (l.map g) ++ [(⟨1, 65, 0, 1, 3, 2, ([] : List Int)⟩ : S30)] = (l ++ [last]).map g := by rw [List.map_append]; rfl
  have el : l ++ [(⟨1, 1, 65, 0, ([] : List Int), 3, 2⟩ : S27)] = l ++ [last] := rfl
  rw [em, el]
  have f1 : impl_TableRun.f k ((l ++ [last]).map g) q = some (q.map (ans T)) := by
    unfold impl_TableRun.f parser_NewTransitionTable.f
    rw [if_pos (by omega), if_pos (by omega), Option.bind_some, List.length_map]
    exact k1
  have f2 : spec_TableOf.f k (l ++ [last]) = some T := by
    unfold spec_TableOf.f
    rw [if_pos (by omega)]
    exact k2
  rw [f1, Option.bind_some, f2, Option.bind_some, if_pos (by rw [List.length_map])]
  exact k3
theorem law1 (l : List S27) (hl : ∀ s ∈ l, Ok s) (hn : l.length ≤ 20) (l1 l2 : List Int) (h1 : ∀ x ∈ l1, 0 ≤ x ∧ x < 256) (h2 : ∀ x ∈ l2, 0 ≤ x ∧ x < 256) (hl1 : l1.length ≤ 100) (hl2 : l1.length ≤ l2.length) : ∀ (m j : Nat), j + m = l1.length →
    Ev fun k => laws_FnTableSteps.l1 k l l1 l2 (l.map g) (asks l1 l2 j) (l1.length : Int) (j : Int) = some true
  | 0, j, hj => (compared l hl hn (asks l1 l2 j) (asks_ok h1 h2 j) (by rw [asks_len]; omega) l1 l2).succ fun k h => by
    unfold laws_FnTableSteps.l1
    rw [if_neg (by omega)]
    exact h
  | m + 1, j, hj => (law1 l hl hn l1 l2 h1 h2 hl1 hl2 m (j + 1) (by omega)).succ fun k h => by
    unfold laws_FnTableSteps.l1
    rw [if_pos (by omega), if_pos (by omega), if_pos (by omega), if_pos (by omega), if_pos (by rw [asks_len]; omega), w64 (x := (j : Int) + 1) (by omega) (by omega), rd_at, rd_at]
    rw [asks_succ] at h
    exact h
theorem law0 (l : List S27) (hw : ∀ s ∈ l, Wf s) (hn : l.length ≤ 20) (l1 l2 : List Int) (h1 : ∀ x ∈ l1, 0 ≤ x ∧ x < 256) (h2 : ∀ x ∈ l2, 0 ≤ x ∧ x < 256) (hl1 : l1.length ≤ 100) (hl2 : l1.length ≤ l2.length) : ∀ (m i : Nat), i + m = l.length → (∀ s ∈ l.take i, Ok s) →
    Ev fun k => laws_FnTableSteps.l0 k l l1 l2 ((l.take i).map g) l (l.length : Int) (i : Int) = some true
  | 0, i, hi, ho => by
    have ht : l.take i = l := List.take_of_length_le (by omega)
    rw [ht] at ho ⊢
    refine (law1 l ho hn l1 l2 h1 h2 hl1 hl2 l1.length 0 (by omega)).succ fun k h => ?_
    unfold laws_FnTableSteps.l0
    rw [if_neg (by omega)]
    exact h
  | m + 1, i, hi, ho => by
    have hws := hw _ (getD_mem l z27 i (by omega))
    have htk : l.take (i + 1) = l.take i ++ [l.getD i z27] := by
      rw [List.take_add_one, List.getElem?_eq_getElem (by omega), List.getD_eq_getElem?_getD, List.getElem?_eq_getElem (by omega)]
      rfl
    have hg := rd27 l i
    by_cases hok : 0 ≤ (l.getD i z27).f0 ∧ (l.getD i z27).f0 ≤ 3 ∧ (l.getD i z27).f1 ≤ 15 ∧ (l.getD i z27).f5 ≤ 15 ∧ (l.getD i z27).f6 ≤ 15 ∧ (l.getD i z27).f4.length ≤ 300
    · obtain ⟨o1, o2, o3, o4, o5, o6⟩ := hok
      have hok : Ok (l.getD i z27) := ⟨o1, o2, hws.f1.1, o3, hws.f2.1, hws.f2.2, hws.f3.1, hws.f3.2, hws.f4, o6⟩
      refine (law0 l hw hn l1 l2 h1 h2 hl1 hl2 m (i + 1) (by omega) (fun s hs => by
        rw [htk] at hs
        rcases List.mem_append.1 hs with h | h
        · exact ho s h
        · obtain rfl := List.mem_singleton.1 h
          exact hok)).succ fun k h => ?_
      have hlt : (List.map g (List.take i l)).length ≤ 20 := by rw [List.length_map, List.length_take]; omega
      unfold laws_FnTableSteps.l0 bytes_Clone.f
      rw [if_pos (by omega), if_pos (by omega), if_pos (by omega), hg, if_neg (by omega), if_neg (by omega), if_neg (by omega), if_neg (by omega), if_neg (by omega), if_neg (by omega), if_pos (by omega), Option.bind_some, if_pos (by omega), w64 (x := (i : Int) + 1) (by omega) (by omega)]
      rw [htk, List.map_append] at h
      exact h
    · refine (Ev.all (P := fun _ => True) (fun _ => trivial)).succ fun k _ => ?_
      unfold laws_FnTableSteps.l0
      rw [if_pos (by omega), if_pos (by omega), if_pos (by omega), hg]
      by_cases c1 : (l.getD i z27).f0 < 0
      · rw [if_pos c1]
      rw [if_neg c1]
      by_cases c2 : (l.getD i z27).f0 > 3
      · rw [if_pos c2]
      rw [if_neg c2]
      by_cases c3 : (l.getD i z27).f1 > 15
      · rw [if_pos c3]
      rw [if_neg c3]
      by_cases c4 : (l.getD i z27).f5 > 15
      · rw [if_pos c4]
      rw [if_neg c4]
      by_cases c5 : (l.getD i z27).f6 > 15
      · rw [if_pos c5]
      rw [if_neg c5]
      by_cases c6 : ((l.getD i z27).f4.length : Int) > 300
      · rw [if_pos c6]
      exact absurd ⟨by omega, by omega, by omega, by omega, by omega, by omega⟩ hok
theorem fits (l : List S27) (hn : l.length ≤ 2147483647) : ∀ (m i : Nat), i + m = l.length → ∃ b, Ev fun k => laws_zzFits1.l0 k l (l.length : Int) (i : Int) = some b
  | 0, i, hi => ⟨true, (Ev.all (P := fun _ => True) (fun _ => trivial)).succ fun k _ => by
    unfold laws_zzFits1.l0
    rw [if_neg (by omega)]⟩
  | m + 1, i, hi => by
    by_cases h : ((rd_T27 l (i : Int)).f4.length : Int) > 2147483647
    · refine ⟨false, (Ev.all (P := fun _ => True) (fun _ => trivial)).succ fun k _ => ?_⟩
      unfold laws_zzFits1.l0 laws_zzFits2.f
      rw [if_pos (by omega), if_pos (by omega), if_pos (by omega), if_pos h]
      rfl
    · obtain ⟨b, hb⟩ := fits l hn m (i + 1) (by omega)
      refine ⟨b, hb.succ fun k hk => ?_⟩
      unfold laws_zzFits1.l0 laws_zzFits2.f
      rw [if_pos (by omega), if_pos (by omega), if_pos (by omega), if_neg h, Option.bind_some, if_pos rfl, w64 (x := (i : Int) + 1) (by omega) (by omega)]
      exact hk
theorem fits_all (l : List S27) : ∃ b, Ev fun k => laws_zzFits1.f k l = some b := by
  by_cases h : (l.length : Int) > 2147483647
  · exact ⟨false, Ev.all fun k => by unfold laws_zzFits1.f; rw [if_pos h]⟩
  · obtain ⟨b, hb⟩ := fits l (by omega) l.length 0 (by omega)
    exact ⟨b, hb.imp fun k hk => by unfold laws_zzFits1.f; rw [if_neg h]; exact hk⟩

theorem j0_eq (k : Nat) (x0 : List S27) (x1 x2 : List Int) (x30 : Bool) : laws_FnTableSteps.j0 (k + 1) x0 x1 x2 x30 = (if x30 = true then (some true) else (if (x0.length : Int) > 20 then (laws_FnTableSteps.j1 k x0 x1 x2 true) else (if (x1.length : Int) > 100 then (laws_FnTableSteps.j1 k x0 x1 x2 true) else (laws_FnTableSteps.j1 k x0 x1 x2 (decide ((x2.length : Int) < (x1.length : Int))))))) := rfl
theorem j1_eq (k : Nat) (x0 : List S27) (x1 x2 : List Int) (x45 : Bool) : laws_FnTableSteps.j1 (k + 1) x0 x1 x2 x45 = (if x45 = true then (some true) else (laws_FnTableSteps.l0 k x0 x1 x2 ([] : List (S30)) x0 (x0.length : Int) 0)) := rfl
def PureFnTableSteps : Prop := ∀ (l0 : List S27) (l1 l2 : List Int), (∀ s ∈ l0, Wf s) → (∀ x ∈ l1, 0 ≤ x ∧ x < 256) → (∀ x ∈ l2, 0 ≤ x ∧ x < 256) → ∃ k, laws_FnTableSteps.f k l0 l1 l2 = some true
theorem FnTableSteps : PureFnTableSteps := by
  intro l0 l1 l2 hw h1 h2
  have yes : Ev fun k => laws_FnTableSteps.j0 k l0 l1 l2 true = some true := (Ev.all (P := fun _ => True) (fun _ => trivial)).succ fun k _ => by rw [j0_eq, if_pos rfl]
  have yes1 : Ev fun k => laws_FnTableSteps.j1 k l0 l1 l2 true = some true := (Ev.all (P := fun _ => True) (fun _ => trivial)).succ fun k _ => by rw [j1_eq, if_pos rfl]
  have main : Ev fun k => laws_FnTableSteps.j0 k l0 l1 l2 false = some true := by
    by_cases c1 : (l0.length : Int) > 20
    · exact yes1.succ fun k h => by rw [j0_eq, if_neg (by decide), if_pos c1]; exact h
    by_cases c2 : (l1.length : Int) > 100
    · exact yes1.succ fun k h => by rw [j0_eq, if_neg (by decide), if_neg c1, if_pos c2]; exact h
    by_cases c3 : (l2.length : Int) < (l1.length : Int)
    · exact yes1.succ fun k h => by rw [j0_eq, if_neg (by decide), if_neg c1, if_neg c2, decide_eq_true c3]; exact h
    refine ((law0 l0 hw (by omega) l1 l2 h1 h2 (by omega) (by omega) l0.length 0 (by omega) (fun s hs => (by simp at hs))).succ (P := fun k => laws_FnTableSteps.j1 k l0 l1 l2 false = some true) fun k h => ?_).succ fun k h => ?_
    · rw [j1_eq, if_neg (by decide)]
      exact h
    · rw [j0_eq, if_neg (by decide), if_neg c1, if_neg c2, decide_eq_false c3]
      exact h
  obtain ⟨b, hb⟩ := fits_all l0
  have all : Ev fun k => laws_FnTableSteps.f k l0 l1 l2 = some true := by
    cases b with
    | false => exact (hb.and yes).imp fun k h => by unfold laws_FnTableSteps.f; rw [h.1, Option.bind_some, if_neg (by decide)]; exact h.2
    | true =>
      by_cases c1 : (l1.length : Int) > 2147483647
      · exact (hb.and yes).imp fun k h => by unfold laws_FnTableSteps.f; rw [h.1, Option.bind_some, if_pos rfl, if_pos c1]; exact h.2
      by_cases c2 : (l2.length : Int) > 2147483647
      · exact (hb.and yes).imp fun k h => by unfold laws_FnTableSteps.f; rw [h.1, Option.bind_some, if_pos rfl, if_neg c1, decide_eq_true c2]; exact h.2
      exact (hb.and main).imp fun k h => by unfold laws_FnTableSteps.f; rw [h.1, Option.bind_some, if_pos rfl, if_neg c1, decide_eq_false c2]; exact h.2
  obtain ⟨K, hK⟩ := all
  exact ⟨K, hK K (Nat.le_refl _)⟩
end Go.Proofs.Ytnjbobboookfmaa.Pure
