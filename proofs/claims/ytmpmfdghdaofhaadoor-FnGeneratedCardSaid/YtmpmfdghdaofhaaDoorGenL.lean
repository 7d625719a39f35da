/- The table that GenerateTransitionTable makes, plain: what the table's own methods do to a list of 4096 numbers, told as updates, the last one at the head. -/
import Derived.Test.YtmpmfdghdaofhaaDoorPGx1
import Derived.Laws.BitsLemmas
namespace Go.Proofs.YtmpmfdghdaofhaaDoor.Gen
set_option linter.unusedVariables false
set_option linter.unusedSimpArgs false
open Go Go.RowKit Go.Proofs.YtmpmfdghdaofhaaDoor.PG Go.Proofs.YtmpmfdghdaofhaaDoorW.PrintWords Go.Proofs.YtmpmfdghdaofhaaDoorW.PrintLast Go.Proofs.YtmpmfdghdaofhaaDoorW.PrintMore

/-- From some number of rounds on. -/
def Ev (P : Nat → Prop) : Prop := ∃ K, ∀ k, K ≤ k → P k
theorem Ev.all {P : Nat → Prop} (h : ∀ k, P k) : Ev P := ⟨0, fun k _ => h k⟩
theorem Ev.succ {P Q : Nat → Prop} (h : Ev Q) (hs : ∀ k, Q k → P (k + 1)) : Ev P := by
  obtain ⟨K, h⟩ := h
  refine ⟨K + 1, fun k hk => ?_⟩
  obtain ⟨j, rfl⟩ : ∃ j, k = j + 1 := ⟨k - 1, by omega⟩
  exact hs j (h j (by omega))
theorem Ev.imp {P Q : Nat → Prop} (h : Ev Q) (hs : ∀ k, Q k → P k) : Ev P := by
  obtain ⟨K, h⟩ := h
  exact ⟨K, fun k hk => hs k (h k hk)⟩
theorem Ev.and {P Q : Nat → Prop} (h : Ev P) (g : Ev Q) : Ev fun k => P k ∧ Q k := by
  obtain ⟨K, h⟩ := h
  obtain ⟨L, g⟩ := g
  exact ⟨K + L, fun k hk => ⟨h k (by omega), g k (by omega)⟩⟩

def val (a n : Int) : Int := Go.bits .or .u8 ((a * 16) % 256) n
def ix (s c : Int) : Int := Go.bits .or .i64 (wrap64 ((wrap64 s) * 256)) (wrap64 c)
theorem w64 {x : Int} (h0 : -9223372036854775808 ≤ x) (h1 : x ≤ 9223372036854775807) : wrap64 x = x := by unfold wrap64; omega
theorem wraps12 (n : Int) (h₀ : 0 ≤ n) (h₁ : n < 2 ^ 12) : IntKind.i64.wrap n = n := by rw [IntKind.wrap_i64]; omega
theorem ix_eq {s c : Int} (h0 : 0 ≤ s) (h1 : s ≤ 15) (h2 : 0 ≤ c) (h3 : c < 256) : ix s c = s * 256 + c := by
  have e1 : wrap64 s = s := w64 (by omega) (by omega)
  have e2 : wrap64 c = c := w64 (by omega) (by omega)
  have e3 : wrap64 (s * 256) = s * 256 := w64 (by omega) (by omega)
  have p12 : (2 : Int) ^ 12 = 4096 := rfl
  have p8 : (2 : Int) ^ 8 = 256 := rfl
  unfold ix
  rw [e1, e2, e3]
  exact bits_join .i64 12 (by decide) wraps12 8 (s * 256) c (by omega) (by rw [p8]; omega) (by rw [p12]; omega) h2 (by rw [p8]; exact h3) (by rw [p12]; omega)
theorem ix_lt {s c : Int} (h0 : 0 ≤ s) (h1 : s ≤ 15) (h2 : 0 ≤ c) (h3 : c < 256) : 0 ≤ ix s c ∧ ix s c < 4096 := by
  rw [ix_eq h0 h1 h2 h3]
  omega
def fill : Nat → List Int → Int → Nat → List Int
  | 0, t, _, _ => t
  | m + 1, t, x, i => fill m (t.set i x) x (i + 1)
theorem fill_len : ∀ m t x i, (fill m t x i).length = t.length
  | 0, _, _, _ => rfl
  | m + 1, t, x, i => by
    show (fill m (t.set i x) x (i + 1)).length = _
    rw [fill_len m, List.length_set]
def many (t : List Int) (s x : Int) (l : List Int) : List Int := l.foldl (fun t c => t.set (ix s c).toNat x) t
theorem many_len (s x : Int) : ∀ (l t : List Int), (many t s x l).length = t.length
  | [], _ => rfl
  | c :: l, t => by
    show (many (t.set _ x) s x l).length = _
    rw [many_len s x l, List.length_set]
def rng : Nat → List Int → Int → Int → Int → List Int
  | 0, t, _, _, _ => t
  | m + 1, t, s, x, c => rng m (t.set (ix s c).toNat x) s x (c + 1)
theorem rng_len : ∀ m t s x c, (rng m t s x c).length = t.length
  | 0, _, _, _, _ => rfl
  | m + 1, t, s, x, c => by
    show (rng m (t.set _ x) s x (c + 1)).length = _
    rw [rng_len m, List.length_set]
/- the table's own methods -/
theorem setdef (a n : Int) : ∀ (m i : Nat) (t : List Int) (L : Int), L = t.length → i + m = t.length → t.length ≤ 100000 → Ev fun k => parser_TransitionTable_SetDefault.l0 k t a n L (i : Int) = some (fill m t (val a n) i)
  | 0, i, t, L, hL, hi, hn => (Ev.all (P := fun _ => True) (fun _ => trivial)).succ fun k _ => by
    unfold parser_TransitionTable_SetDefault.l0
    rw [if_neg (by omega)]
    rfl
  | m + 1, i, t, L, hL, hi, hn => (setdef a n m (i + 1) (t.set i (val a n)) L (by rw [List.length_set]; exact hL) (by rw [List.length_set]; omega) (by rw [List.length_set]; exact hn)).succ fun k h => by
    unfold parser_TransitionTable_SetDefault.l0
    rw [if_pos (by omega), if_pos (by omega), if_pos (by omega), w64 (x := (i : Int) + 1) (by omega) (by omega)]
    exact h
theorem addone {t : List Int} {c s a n : Int} (ht : t.length = 4096) (h0 : 0 ≤ s) (h1 : s ≤ 15) (h2 : 0 ≤ c) (h3 : c < 256) : parser_TransitionTable_AddOne.f t c s a n = some (t.set (ix s c).toNat (val a n)) := by
  have h := ix_lt h0 h1 h2 h3
  unfold ix at h
  unfold parser_TransitionTable_AddOne.f
  rw [if_pos h.1, if_pos (by rw [ht]; exact h.2)]
  rfl
theorem rd_at (l : List Int) (i : Nat) : rd l (i : Int) = l.getD i 0 := by
  unfold rd
  rw [Int.toNat_natCast]
theorem drop_cons {α : Type} (l : List α) (z : α) (i : Nat) (h : i < l.length) : l.drop i = l.getD i z :: l.drop (i + 1) := by
  rw [List.drop_eq_getElem_cons h]
  simp [List.getD_eq_getElem?_getD, h]
theorem getD_mem {α : Type} (l : List α) (z : α) (i : Nat) (h : i < l.length) : l.getD i z ∈ l := by
  rw [List.getD_eq_getElem?_getD, List.getElem?_eq_getElem h]
  exact List.getElem_mem h
theorem addmany (s a n : Int) (cs : List Int) (hc : ∀ x ∈ cs, 0 ≤ x ∧ x < 256) (h0 : 0 ≤ s) (h1 : s ≤ 15) (hl : cs.length ≤ 100000) : ∀ (m i : Nat) (t : List Int), t.length = 4096 → i + m = cs.length → Ev fun k => parser_TransitionTable_AddMany.l0 k t s a n cs (cs.length : Int) (i : Int) = some (many t s (val a n) (cs.drop i))
  | 0, i, t, ht, hi => (Ev.all (P := fun _ => True) (fun _ => trivial)).succ fun k _ => by
    unfold parser_TransitionTable_AddMany.l0
    rw [if_neg (by omega), List.drop_eq_nil_of_le (by omega)]
    rfl
  | m + 1, i, t, ht, hi => by
    have hm := hc _ (getD_mem cs 0 i (by omega))
    refine (addmany s a n cs hc h0 h1 hl m (i + 1) (t.set (ix s (cs.getD i 0)).toNat (val a n)) (by rw [List.length_set]; exact ht) (by omega)).succ fun k h => ?_
    unfold parser_TransitionTable_AddMany.l0
    rw [if_pos (by omega), if_pos (by omega), if_pos (by omega), rd_at, addone ht h0 h1 hm.1 hm.2, Option.bind_some, w64 (x := (i : Int) + 1) (by omega) (by omega), drop_cons cs 0 i (by omega)]
    exact h
theorem addrange (s a n e : Int) (he0 : 0 ≤ e) (he : e < 256) (h0 : 0 ≤ s) (h1 : s ≤ 15) : ∀ (m : Nat) (c : Int) (t : List Int), t.length = 4096 → 0 ≤ c → m = (e + 1 - c).toNat → Ev fun k => parser_TransitionTable_AddRange.l0 k t e s a n c = some (rng m t s (val a n) c)
  | 0, c, t, ht, hc, hm => (Ev.all (P := fun _ => True) (fun _ => trivial)).succ fun k _ => by
    unfold parser_TransitionTable_AddRange.l0
    rw [if_neg (by rw [w64 (by omega) (by omega)]; omega)]
    rfl
  | m + 1, c, t, ht, hc, hm => by
    refine (addrange s a n e he0 he h0 h1 m (c + 1) (t.set (ix s c).toNat (val a n)) (by rw [List.length_set]; exact ht) (by omega) (by omega)).succ fun k h => ?_
    unfold parser_TransitionTable_AddRange.l0
    rw [if_pos (by rw [w64 (by omega) (by omega)]; omega), show c % 256 = c by omega, addone ht h0 h1 hc (by omega), Option.bind_some, w64 (x := c + 1) (by omega) (by omega)]
    exact h


/-- An update: state, first byte, last byte, value. -/
abbrev Up := Int × Int × Int × Int
def ap (t : List Int) (u : Up) : List Int := rng (u.2.2.1 + 1 - u.2.1).toNat t u.1 u.2.2.2 u.2.1
def tab : List Up → List Int
  | [] => List.replicate 4096 0
  | u :: l => ap (tab l) u
theorem tab_len : ∀ U, (tab U).length = 4096
  | [] => List.length_replicate
  | u :: l => by
    show (rng _ _ _ _ _).length = _
    rw [rng_len, tab_len l]
def look : List Up → Int → Int → Int
  | [], _, _ => 0
  | u :: l, s, c => if u.1 = s ∧ u.2.1 ≤ c ∧ c ≤ u.2.2.1 then u.2.2.2 else look l s c
def okU (u : Up) : Prop := 0 ≤ u.1 ∧ u.1 ≤ 15 ∧ 0 ≤ u.2.1 ∧ u.2.2.1 ≤ 255
instance (u : Up) : Decidable (okU u) := by unfold okU; infer_instance

theorem rng_at (s x st c : Int) (h0 : 0 ≤ s) (h1 : s ≤ 15) (g0 : 0 ≤ st) (g1 : st ≤ 15) (g2 : 0 ≤ c) (g3 : c < 256) : ∀ (m : Nat) (t : List Int) (lo : Int), t.length = 4096 → 0 ≤ lo → lo + m ≤ 256 → (rng m t s x lo).getD (ix st c).toNat 0 = if s = st ∧ lo ≤ c ∧ c < lo + m then x else t.getD (ix st c).toNat 0
  | 0, t, lo, ht, hl, hm => by
    rw [if_neg (by omega)]
    rfl
  | m + 1, t, lo, ht, hl, hm => by
    have ih := rng_at s x st c h0 h1 g0 g1 g2 g3 m (t.set (ix s lo).toNat x) (lo + 1) (by rw [List.length_set]; exact ht) (by omega) (by omega)
    show (rng m (t.set (ix s lo).toNat x) s x (lo + 1)).getD _ 0 = _
    rw [ih]
    have e1 := ix_eq h0 h1 hl (show lo < 256 by omega)
    have e2 := ix_eq g0 g1 g2 g3
    by_cases hc : s = st ∧ lo + 1 ≤ c ∧ c < lo + 1 + m
    · rw [if_pos hc, if_pos (by omega)]
    · rw [if_neg hc, List.getD_eq_getElem?_getD, List.getElem?_set]
      by_cases hx : s = st ∧ lo = c
      · rw [if_pos (by omega), if_pos (by rw [ht]; omega), if_pos (by omega)]
        rfl
      · rw [if_neg (by omega), if_neg (by omega), List.getD_eq_getElem?_getD]
theorem tab_look (st c : Int) (g0 : 0 ≤ st) (g1 : st ≤ 15) (g2 : 0 ≤ c) (g3 : c < 256) : ∀ U : List Up, (∀ u ∈ U, okU u) → (tab U).getD (ix st c).toNat 0 = look U st c
  | [], _ => by
    show (List.replicate 4096 (0 : Int)).getD _ 0 = 0
    rw [List.getD_eq_getElem?_getD, List.getElem?_replicate]
    split <;> rfl
  | u :: l, h => by
    have hu := h u (List.mem_cons_self ..)
    have ih := tab_look st c g0 g1 g2 g3 l (fun x hx => h x (List.mem_cons_of_mem _ hx))
    obtain ⟨h1, h2, h3, h4⟩ := hu
    have hlk : look (u :: l) st c = if u.1 = st ∧ u.2.1 ≤ c ∧ c ≤ u.2.2.1 then u.2.2.2 else look l st c := rfl
    rw [hlk]
    show (rng _ (tab l) u.1 u.2.2.2 u.2.1).getD _ 0 = _
    by_cases hle : u.2.1 ≤ u.2.2.1 + 1
    · rw [rng_at u.1 u.2.2.2 st c h1 h2 g0 g1 g2 g3 _ _ _ (tab_len l) h3 (by omega), ih]
      by_cases hc : u.1 = st ∧ u.2.1 ≤ c ∧ c ≤ u.2.2.1
      · rw [if_pos hc, if_pos (by omega)]
      · rw [if_neg hc, if_neg (by omega)]
    · rw [show (u.2.2.1 + 1 - u.2.1).toNat = 0 by omega]
      rw [if_neg (by omega)]
      exact ih

/-- What AddMany does, as updates. -/
def mny (s x : Int) (cs : List Int) (U : List Up) : List Up := cs.foldl (fun U c => (s, c, c, x) :: U) U
theorem one_ap (t : List Int) (s c x : Int) : ap t (s, c, c, x) = t.set (ix s c).toNat x := by
  unfold ap
  show rng (c + 1 - c).toNat t s x c = _
  rw [show (c + 1 - c).toNat = 1 by omega]
  rfl
theorem tab_mny (s x : Int) : ∀ (cs : List Int) (U : List Up), many (tab U) s x cs = tab (mny s x cs U)
  | [], U => rfl
  | c :: cs, U => by
    have ih := tab_mny s x cs ((s, c, c, x) :: U)
    show many ((tab U).set (ix s c).toNat x) s x cs = _
    rw [← one_ap]
    exact ih

/- the methods, at some number of rounds -/
theorem f_one (U : List Up) {c s a n : Int} (h0 : 0 ≤ s) (h1 : s ≤ 15) (h2 : 0 ≤ c) (h3 : c < 256) : parser_TransitionTable_AddOne.f (tab U) c s a n = some (tab ((s, c, c, val a n) :: U)) := by
  rw [addone (tab_len U) h0 h1 h2 h3, ← one_ap]
  rfl
theorem f_rng (U : List Up) {lo hi s a n : Int} (h0 : 0 ≤ s) (h1 : s ≤ 15) (h2 : 0 ≤ lo) (h3 : 0 ≤ hi) (h4 : hi < 256) (h5 : lo < 256) : ∃ k, parser_TransitionTable_AddRange.f k (tab U) lo hi s a n = some (tab ((s, lo, hi, val a n) :: U)) := by
  obtain ⟨K, h⟩ := addrange s a n hi h3 h4 h0 h1 (hi + 1 - lo).toNat lo (tab U) (tab_len U) h2 rfl
  refine ⟨K, ?_⟩
  unfold parser_TransitionTable_AddRange.f
  rw [w64 (x := lo) (by omega) (by omega)]
  exact h K (Nat.le_refl _)
theorem f_mny (U : List Up) {s a n : Int} (cs : List Int) (hc : ∀ x ∈ cs, 0 ≤ x ∧ x < 256) (h0 : 0 ≤ s) (h1 : s ≤ 15) (hl : cs.length ≤ 100000) : ∃ k, parser_TransitionTable_AddMany.f k (tab U) cs s a n = some (tab (mny s (val a n) cs U)) := by
  obtain ⟨K, h⟩ := addmany s a n cs hc h0 h1 hl cs.length 0 (tab U) (tab_len U) (by omega)
  refine ⟨K, ?_⟩
  unfold parser_TransitionTable_AddMany.f
  rw [← tab_mny]
  exact h K (Nat.le_refl _)
theorem fill_zero (n : Nat) : ∀ (m i : Nat), fill m (List.replicate n 0) 0 i = List.replicate n 0
  | 0, _ => rfl
  | m + 1, i => by
    show fill m ((List.replicate n (0 : Int)).set i 0) 0 (i + 1) = _
    rw [List.set_replicate_self]
    exact fill_zero n m (i + 1)
theorem f_def : ∃ k, parser_TransitionTable_SetDefault.f k (tab []) 0 0 = some (tab []) := by
  obtain ⟨K, h⟩ := setdef 0 0 4096 0 (tab []) 4096 (by rw [tab_len]; rfl) (by rw [tab_len]) (by rw [tab_len]; omega)
  refine ⟨K, ?_⟩
  unfold parser_TransitionTable_SetDefault.f
  rw [tab_len]
  have h2 := h K (Nat.le_refl _)
  rw [show val 0 0 = 0 by decide +kernel] at h2
  exact h2.trans (congrArg some (fill_zero 4096 4096 0))
theorem f_new : parser_NewTransitionTable.f 4096 = some (tab []) := by
  unfold parser_NewTransitionTable.f
  rw [if_neg (by decide), if_pos (by decide), if_pos (by decide)]
  rfl

end Go.Proofs.YtmpmfdghdaofhaaDoor.Gen
