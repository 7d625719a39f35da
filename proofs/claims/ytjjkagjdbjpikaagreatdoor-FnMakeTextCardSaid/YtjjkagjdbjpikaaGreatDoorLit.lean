/- Bytes made of a constant, '[]byte("..")', that lie in a slot and are appended to: a row that is marked, so none of the kit's own rows; what is read of it, and the append that grows. -/
import Derived.Test.YtjjkagjdbjpikaaGreatDoorExt2
import Derived.Test.YtjjkagjdbjpikaaGreatDoorProg
import Derived.ArgAppend
namespace Go.Proofs.YtjjkagjdbjpikaaGreatDoor.Lit
open Go Go.RowKit Go.Proofs.YtjjkagjdbjpikaaGreatDoorW.PrintWords Go.Proofs.YtjjkagjdbjpikaaGreatDoorW.PrintLast

/-- A row of bytes of the call's own that is read alone: its place, its elements. -/
def LR (w : World) (base : Nat) (ok : Nat → Prop) (v : Value) (xs : List Int) : Prop :=
  (∀ k, v.ownBlock = some k → ok k) ∧ ∃ g c, v = .slice (some ⟨g, 0, none⟩) xs.length c ∧ (Kd.int .u8).C w (some ⟨g, 0, none⟩) xs.length xs ∧ base ≤ g ∧ g < w.heap.size
section
variable {w w1 W : World} {base : Nat} {ok ok' : Nat → Prop} {v u : Value} {xs : List Int}
theorem LR_below (h : LR w base ok v xs) (hb : Below w.heap.size w w1) : LR w1 base ok v xs := by
  obtain ⟨h0, g, c, rfl, hC, h1, h2⟩ := h
  exact ⟨h0, g, c, rfl, Kd.C_below hC hb, h1, Nat.lt_of_lt_of_le h2 hb.size⟩
theorem LR_drew (h : LR w base ok v xs) : LR w.drew base ok v xs := LR_below h (below_drew (Below.refl _ _))
theorem LR_lower {base' : Nat} (h : LR w base ok v xs) (hb : base' ≤ base) : LR w base' ok v xs := by
  obtain ⟨h0, g, c, rfl, hC, h1, h2⟩ := h
  exact ⟨h0, g, c, rfl, hC, Nat.le_trans hb h1, h2⟩
theorem LR_base (h : LR w base ok v xs) : ∀ k, v.ownBlock = some k → base ≤ k := by
  obtain ⟨h0, g, c, rfl, hC, h1, h2⟩ := h
  intro k hk
  have : g = k := by simpa [Value.ownBlock] using hk
  omega
theorem LR_lt (h : LR w base ok v xs) : ∀ k, v.ownBlock = some k → k < w.heap.size := by
  obtain ⟨h0, g, c, rfl, hC, h1, h2⟩ := h
  intro k hk
  have : g = k := by simpa [Value.ownBlock] using hk
  omega
theorem LR_mono (h : LR w base ok v xs) (hok : ∀ k, ok k → ok' k) : LR w base ok' v xs := ⟨fun k hk => hok k (h.1 k hk), h.2⟩
theorem LR_elder' (hu : LR W base ok u xs) (hbase : ∀ k, v.ownBlock = some k → W.heap.size ≤ k) (hb : Below W.heap.size W w1) : LR w1 base (fun k => ok k ∧ some k ≠ v.ownBlock) u xs := by
  have h2 := LR_lt hu
  refine ⟨fun k hk => ⟨hu.1 k hk, fun he => ?_⟩, (LR_below hu hb).2⟩
  have := hbase k he.symm
  have := h2 k hk
  omega
theorem LR_new' (h : LR w1 W.heap.size ok v xs) (hlt : ∀ k, u.ownBlock = some k → k < W.heap.size) : LR w1 W.heap.size (fun k => ok k ∧ some k ≠ u.ownBlock) v xs := by
  have h2 := LR_base h
  refine ⟨fun k hk => ⟨h.1 k hk, fun he => ?_⟩, h.2⟩
  have := hlt k he.symm
  have := h2 k hk
  omega
theorem LR_of_R (h : (Kd.int .u8).R 5 w base ok v xs) (hp : 0 < xs.length) : LR w base ok v xs := by
  obtain ⟨g, c, rfl, hb, hl, _⟩ := Kd.R_form h hp
  obtain ⟨A, c', he, _, hC⟩ := Kd.R_reads h
  injection he with e1 e2 e3
  exact ⟨h.1, g, c, rfl, e1 ▸ hC, hb, hl⟩
theorem LR_string {P : Program} {src dst e : TypeId} (hs : P.underlying src = some (.slice e)) (he : P.underlying e = some (.int .u8)) (hd : P.underlying dst = some .string)
    (h : LR w base ok v xs) : (convert src dst v).run P w = .ok (.string (strOfNums xs)) w := by
  obtain ⟨h0, g, c, rfl, hC, _, _⟩ := h
  exact Kd.C_string hs he hd hC
end
/-- As full as it is long. -/
def Full (v : Value) (xs : List Int) : Prop := ∃ g, v = .slice (some ⟨g, 0, none⟩) xs.length xs.length
section
variable {P : Program} {ops : Array Oper} {rest : List Oper} {o o2 : Oper} {a : Act} {Q : Exit → Act → World → Prop}
/-- The literal and its conversion, two steps at once. -/
theorem lit_mark {W : World} {xs : List Int} (t : TypeId) (hgd : o.guard = none) (hgd2 : o2.guard = none) (ht : P.underlying t = some (.slice 5)) (he : P.underlying 5 = some (.int .u8)) (hm : xs.length ≤ 9223372036854775807)
    (hrun : (execOp a.eval o).run P W = .ok (.value (.slice (some ⟨W.heap.size, 0, none⟩) xs.length xs.length)) (W.alloc (.cells (xs.map fun x => Value.int .u8 x).toArray 5)))
    (h2 : ∀ v W', (execOp (a.put o.dst v).eval o2).run P W' = ((convert t t v).run P W').andThen fun u w' => .ok (.value u) w')
    (h : ∀ v1 w1, LR w1 W.heap.size (fun _ => True) v1 xs → Full v1 xs → Below W.heap.size W w1 → wpList P ops Q rest ((a.put o.dst v1).put o2.dst v1) w1) : wpList P ops Q (o :: o2 :: rest) a W := by
  refine Kd.event_run hgd hrun (Kd.event_run (v := .slice (some ⟨W.heap.size, 0, none⟩) xs.length xs.length) hgd2 ?_ (h _ (W.alloc (.cells (xs.map fun x => Value.int .u8 x).toArray 5 ((xs.map fun x => Value.int .u8 x).toArray.size, (xs.map fun x => Value.int .u8 x).toArray.size + 1))) ?_ ⟨_, rfl⟩ ?_))
  · rw [h2, Lib.run_convert_bytes_const W t 5 _ _ _ ht he]
    rfl
  · refine ⟨fun _ _ => trivial, _, _, rfl, Ext.C_lit W xs _ 5 _ rfl hm, Nat.le_refl _, ?_⟩
    simp [World.alloc, -World.alloc_eq]
  · exact below_alloc (Below.refl _ _) _
/-- One byte appended to what is full. -/
theorem lit_append {W : World} (base : Nat) (hgd : o.guard = none) (s x : Operand) (t : TypeId) (z : Value)
    (ho : o.op = .call { callee := .builtin .append, args := #[s, x], argTypes := #[t, t] })
    (ht : P.underlying t = some (.slice 5)) (hinfo : (P.info? 5).map (fun i => (i.zero, i.size, i.bytes)) = some (some z, 1, 1)) (hz : z.cells.size = 1)
    (v : Value) (xs : List Int) (p : Int) (ok ok0 : Nat → Prop) (hs : a.eval s = v) (hx : a.eval x = .slice (some ⟨W.heap.size, 0, none⟩) 1 1) (hfresh : ∀ k, W.heap.size ≤ k → ok k)
    (HF : Full v xs) (HL : LR W base ok0 v xs) (hl : xs.length + 1 ≤ 140737488355328)
    (h : ∀ v1 w1, LR w1 W.heap.size ok v1 (xs ++ [p]) → Below W.heap.size W w1 → wpList P ops Q rest (a.put o.dst v1) w1) :
    wpList P ops Q (o :: rest) a (W.alloc (.cells #[.int .u8 p] 5)) := by
  obtain ⟨g, rfl⟩ := HF
  obtain ⟨_, g', c', he, hC, hb, hlt⟩ := HL
  injection he with e1 e2 e3
  injection e1 with e1
  injection e1 with e1 _ _
  subst e1
  obtain ⟨i, hi, hii⟩ := Option.map_eq_some_iff.1 hinfo
  simp only [Prod.mk.injEq] at hii
  obtain ⟨i1, i2, i3⟩ := hii
  have hbw : Below W.heap.size W (W.alloc (.cells #[.int .u8 p] 5)) := below_alloc (Below.refl _ _) _
  have hR := Kd.reads_of_C (enc := Value.int .u8) (d := (0 : Int)) (h1 := fun _ => rfl) hC
  refine wpList_append_arg _ hgd s x t ho 5 i z 1 1 ht hi i1 i2 i3 hz (by decide) g 0 xs.length xs.length (xs.map fun x => Value.int .u8 x) hs (by simp) ?_ ⟨W.heap.size, 0, none⟩ 1 1 [.int .u8 p] hx rfl ?_ ?_ (fun h => absurd h (by omega)) (by simp only [maxLen]; omega) (by omega) (fun h => absurd h (by omega)) ?_
  · intro j u hj
    rw [hbw.cell (p := ⟨g, 0 + j, none⟩) hlt]
    rcases Nat.lt_or_ge j xs.length with hjl | hjl
    · obtain ⟨ad, e, hc⟩ := hR.2.2 (by omega)
      injection e with e
      subst e
      have h3 := hc j hjl
      rw [add_plain] at h3
      simp only [Nat.zero_add] at h3 ⊢
      rw [h3]
      rw [List.getElem?_map, List.getElem?_eq_getElem hjl] at hj
      simp only [Option.map_some] at hj
      rw [List.getD_eq_getElem?_getD, List.getElem?_eq_getElem hjl]
      exact hj
    · rw [List.getElem?_eq_none (by simpa using hjl)] at hj
      cases hj
  · intro j u hj
    have hj0 : j = 0 := by
      rcases j with _ | j
      · rfl
      · simp at hj
    subst hj0
    simp only [List.getElem?_cons_zero, Option.some.injEq] at hj
    subst hj
    rw [add_plain, World.cell?_alloc_mark]
    rfl
  · intro u hu
    simp only [List.mem_singleton] at hu
    subst hu
    rfl
  · intro hlt2 v' w' hown hg
    have hsz : W.heap.size ≤ (W.alloc (.cells #[.int .u8 p] 5)).heap.size := hbw.size
    have hown' : w'.ownsRow W.heap.size 5 1 v' (xs ++ [p]).length (encs (Value.int .u8) (xs ++ [p])) := by
      have h4 := own_less hown hsz
      rw [List.length_append]
      have h5 : encs (Value.int .u8) (xs ++ [p]) = (xs.map fun x => Value.int .u8 x) ++ [Value.int .u8 p] := by simp [encs]
      rw [h5]
      exact h4
    have hR' := Kd.R_of_own (enc := Value.int .u8) (h1 := fun _ => rfl) (ok := ok) hown' (fun k hk => hfresh k (own_base hown' k hk))
    exact h v' w' (LR_of_R hR' (by simp)) (hbw.grown hg hsz (fun k hk => by cases hk))
/-- One byte appended to what is full: a row of the call's own. -/
theorem lit_appendR {W : World} (base : Nat) (hgd : o.guard = none) (s x : Operand) (t : TypeId) (z : Value)
    (ho : o.op = .call { callee := .builtin .append, args := #[s, x], argTypes := #[t, t] })
    (ht : P.underlying t = some (.slice 5)) (hinfo : (P.info? 5).map (fun i => (i.zero, i.size, i.bytes)) = some (some z, 1, 1)) (hz : z.cells.size = 1)
    (v : Value) (xs : List Int) (p : Int) (ok ok0 : Nat → Prop) (hs : a.eval s = v) (hx : a.eval x = .slice (some ⟨W.heap.size, 0, none⟩) 1 1) (hfresh : ∀ k, W.heap.size ≤ k → ok k)
    (HF : Full v xs) (HL : LR W base ok0 v xs) (hl : xs.length + 1 ≤ 140737488355328)
    (h : ∀ v1 w1, (Kd.int .u8).R 5 w1 W.heap.size ok v1 (xs ++ [p]) → Below W.heap.size W w1 → wpList P ops Q rest (a.put o.dst v1) w1) :
    wpList P ops Q (o :: rest) a (W.alloc (.cells #[.int .u8 p] 5)) := by
  obtain ⟨g, rfl⟩ := HF
  obtain ⟨_, g', c', he, hC, hb, hlt⟩ := HL
  injection he with e1 e2 e3
  injection e1 with e1
  injection e1 with e1 _ _
  subst e1
  obtain ⟨i, hi, hii⟩ := Option.map_eq_some_iff.1 hinfo
  simp only [Prod.mk.injEq] at hii
  obtain ⟨i1, i2, i3⟩ := hii
  have hbw : Below W.heap.size W (W.alloc (.cells #[.int .u8 p] 5)) := below_alloc (Below.refl _ _) _
  have hR := Kd.reads_of_C (enc := Value.int .u8) (d := (0 : Int)) (h1 := fun _ => rfl) hC
  refine wpList_append_arg _ hgd s x t ho 5 i z 1 1 ht hi i1 i2 i3 hz (by decide) g 0 xs.length xs.length (xs.map fun x => Value.int .u8 x) hs (by simp) ?_ ⟨W.heap.size, 0, none⟩ 1 1 [.int .u8 p] hx rfl ?_ ?_ (fun h => absurd h (by omega)) (by simp only [maxLen]; omega) (by omega) (fun h => absurd h (by omega)) ?_
  · intro j u hj
    rw [hbw.cell (p := ⟨g, 0 + j, none⟩) hlt]
    rcases Nat.lt_or_ge j xs.length with hjl | hjl
    · obtain ⟨ad, e, hc⟩ := hR.2.2 (by omega)
      injection e with e
      subst e
      have h3 := hc j hjl
      rw [add_plain] at h3
      simp only [Nat.zero_add] at h3 ⊢
      rw [h3]
      rw [List.getElem?_map, List.getElem?_eq_getElem hjl] at hj
      simp only [Option.map_some] at hj
      rw [List.getD_eq_getElem?_getD, List.getElem?_eq_getElem hjl]
      exact hj
    · rw [List.getElem?_eq_none (by simpa using hjl)] at hj
      cases hj
  · intro j u hj
    have hj0 : j = 0 := by
      rcases j with _ | j
      · rfl
      · simp at hj
    subst hj0
    simp only [List.getElem?_cons_zero, Option.some.injEq] at hj
    subst hj
    rw [add_plain, World.cell?_alloc_mark]
    rfl
  · intro u hu
    simp only [List.mem_singleton] at hu
    subst hu
    rfl
  · intro hlt2 v' w' hown hg
    have hsz : W.heap.size ≤ (W.alloc (.cells #[.int .u8 p] 5)).heap.size := hbw.size
    have hown' : w'.ownsRow W.heap.size 5 1 v' (xs ++ [p]).length (encs (Value.int .u8) (xs ++ [p])) := by
      have h4 := own_less hown hsz
      rw [List.length_append]
      have h5 : encs (Value.int .u8) (xs ++ [p]) = (xs.map fun x => Value.int .u8 x) ++ [Value.int .u8 p] := by simp [encs]
      rw [h5]
      exact h4
    have hR' := Kd.R_of_own (enc := Value.int .u8) (h1 := fun _ => rfl) (ok := ok) hown' (fun k hk => hfresh k (own_base hown' k hk))
    exact h v' w' hR' (hbw.grown hg hsz (fun k hk => by cases hk))
end
end Go.Proofs.YtjjkagjdbjpikaaGreatDoor.Lit
