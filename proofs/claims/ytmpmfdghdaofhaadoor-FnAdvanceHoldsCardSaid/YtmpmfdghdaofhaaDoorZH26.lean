/- Texts of this claim, joined; what isn't needed is left out (wip/slim.py). -/
import Derived.Test.YtmpmfdghdaofhaaDoorZH25
import Derived.Deep.Upon
namespace Go.Proofs.YtmpmfdghdaofhaaDoor.Lit
open Go Go.RowKit Go.Proofs.YtmpmfdghdaofhaaDoorW.PrintWords Go.Proofs.YtmpmfdghdaofhaaDoorW.PrintLast
section
variable {P : Program} {ops : Array Oper} {rest : List Oper} {o o2 : Oper} {a : Act} {Q : Exit → Act → World → Prop}
theorem lit_append_rows {W : World} (base : Nat) (hgd : o.guard = none) (s x : Operand) (t : TypeId) (z : Value)
    (ho : o.op = .call { callee := .builtin .append, args := #[s, x], argTypes := #[t, t] })
    (ht : P.underlying t = some (.slice 5)) (hinfo : (P.info? 5).map (fun i => (i.zero, i.size, i.bytes)) = some (some z, 1, 1)) (hz : z.cells.size = 1)
    (v : Value) (xs ys : List Int) (A : Option Addr) (c : Nat) (ok0 : Nat → Prop) (hs : a.eval s = v) (hx : a.eval x = .slice A ys.length c)
    (HF : Full v xs) (HL : LR W base ok0 v xs) (hC2 : (Kd.int .u8).C W A ys.length ys) (hbase : base ≤ W.heap.size) (hl : xs.length + ys.length ≤ 140737488355328)
    (h : ∀ v1 w1, LR w1 base (fun _ => True) v1 (xs ++ ys) → (∃ A c, v1 = .slice A (xs ++ ys).length c ∧ (xs ++ ys).length ≤ c) → Below W.heap.size W w1 → wpList P ops Q rest (a.put o.dst v1) w1) :
    wpList P ops Q (o :: rest) a W := by
  obtain ⟨g, rfl⟩ := HF
  obtain ⟨hok, g', c', he, hC, hb, hlt⟩ := HL
  injection he with e1 e2 e3
  injection e1 with e1
  injection e1 with e1 _ _
  subst e1
  obtain ⟨i, hi, hii⟩ := Option.map_eq_some_iff.1 hinfo
  simp only [Prod.mk.injEq] at hii
  obtain ⟨i1, i2, i3⟩ := hii
  by_cases hy : ys = []
  · subst hy
    have hsrc : Src P i.size t (.slice A 0 c) 0 [] W := by
      cases A with
      | none => exact Src.ofNil (P := P) W ht c
      | some ad => exact Src.ofSlice (P := P) W ht ad 0 c [] (by simp) (fun j u hj => by simp at hj) (fun u hu => by cases hu)
    have hrun := run_append_nothing (P := P) W t t o.type 5 i ht hi (some ⟨g, 0, none⟩) xs.length xs.length (Nat.le_refl _) _ hsrc
    refine wpList_plain hgd fun K hK' => ?_
    unfold Oper.wp
    simp only [List.length_nil] at hx
    simp [execOp, ho, resolve, invoke, builtin, hs, hx, hrun, Result.andThen]
    exact hK' _ _ (h _ W (by rw [List.append_nil]; exact ⟨fun _ _ => trivial, g, _, rfl, hC, hb, hlt⟩) ⟨_, _, by rw [List.append_nil], by rw [List.append_nil]; exact Nat.le_refl _⟩ (Below.refl _ _))
  · have hpos : 0 < ys.length := List.length_pos_iff.2 hy
    have hR := Kd.reads_of_C (enc := Value.int .u8) (d := (0 : Int)) (h1 := fun _ => rfl) hC
    have hR2 := Kd.reads_of_C (enc := Value.int .u8) (d := (0 : Int)) (h1 := fun _ => rfl) hC2
    obtain ⟨ad, rfl, hcell⟩ := hR2.2.2 hpos
    refine wpList_append_arg _ hgd s x t ho 5 i z 1 1 ht hi i1 i2 i3 hz (by decide) g 0 xs.length xs.length (xs.map fun x => Value.int .u8 x) hs (by simp) ?_ ad ys.length c (ys.map fun x => Value.int .u8 x) hx (by simp) ?_ ?_ (fun h => absurd h (by omega)) (by simp only [maxLen]; omega) (by omega) (fun h => absurd h (by omega)) ?_
    · intro j u hj
      rcases Nat.lt_or_ge j xs.length with hjl | hjl
      · obtain ⟨ad', e, hc⟩ := hR.2.2 (by omega)
        injection e with e
        subst e
        have h3 := hc j hjl
        rw [add_plain] at h3
        simp only [Nat.zero_add] at h3 ⊢
        rw [h3]
        rw [List.getElem?_map, List.getElem?_eq_getElem hjl] at hj
        simp only [Option.map_some] at hj
        rw [List.getD_eq_getElem?_getD, List.getElem?_eq_getElem hjl]
        exact hj
      · rw [List.getElem?_eq_none (by simpa using hjl)] at hj
        cases hj
    · intro j u hj
      rcases Nat.lt_or_ge j ys.length with hjl | hjl
      · rw [hcell j hjl]
        rw [List.getElem?_map, List.getElem?_eq_getElem hjl] at hj
        simp only [Option.map_some] at hj
        rw [List.getD_eq_getElem?_getD, List.getElem?_eq_getElem hjl]
        exact hj
      · rw [List.getElem?_eq_none (by simpa using hjl)] at hj
        cases hj
    · intro u hu
      obtain ⟨q, _, rfl⟩ := List.mem_map.1 hu
      rfl
    · intro hlt2 v' w' hown hg
      have hown' : w'.ownsRow W.heap.size 5 1 v' (xs ++ ys).length (encs (Value.int .u8) (xs ++ ys)) := by
        rw [List.length_append]
        have h5 : encs (Value.int .u8) (xs ++ ys) = (xs.map fun x => Value.int .u8 x) ++ (ys.map fun x => Value.int .u8 x) := by simp [encs]
        rw [h5]
        exact hown
      have hR' := Kd.R_of_own (enc := Value.int .u8) (h1 := fun _ => rfl) (ok := fun _ => True) hown' (fun _ _ => trivial)
      obtain ⟨A', c', e'⟩ := Kd.R_slice hR'
      have hcp : (xs ++ ys).length ≤ c' := by
        subst e'
        exact (Kd.R_reads' hR').2.1
      exact h v' w' (LR_lower (LR_of_R hR' (by simp; omega)) hbase) ⟨A', c', e', hcp⟩ ((Below.refl _ _).grown hg (Nat.le_refl _) (fun k hk => by cases hk))
end
end Go.Proofs.YtmpmfdghdaofhaaDoor.Lit
