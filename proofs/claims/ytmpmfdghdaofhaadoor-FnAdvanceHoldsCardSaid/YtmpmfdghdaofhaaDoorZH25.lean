/- Texts of this claim, joined; what isn't needed is left out (wip/slim.py). -/
import Derived.Test.YtmpmfdghdaofhaaDoorZH4
import Derived.Test.YtmpmfdghdaofhaaDoorProg
import Derived.ArgAppend
namespace Go.Proofs.YtmpmfdghdaofhaaDoor.Lit
open Go Go.RowKit Go.Proofs.YtmpmfdghdaofhaaDoorW.PrintWords Go.Proofs.YtmpmfdghdaofhaaDoorW.PrintLast
def LR (w : World) (base : Nat) (ok : Nat → Prop) (v : Value) (xs : List Int) : Prop :=
  (∀ k, v.ownBlock = some k → ok k) ∧ ∃ g c, v = .slice (some ⟨g, 0, none⟩) xs.length c ∧ (Kd.int .u8).C w (some ⟨g, 0, none⟩) xs.length xs ∧ base ≤ g ∧ g < w.heap.size
section
variable {w w1 W : World} {base : Nat} {ok ok' : Nat → Prop} {v u : Value} {xs : List Int}
theorem LR_lower {base' : Nat} (h : LR w base ok v xs) (hb : base' ≤ base) : LR w base' ok v xs := by
  obtain ⟨h0, g, c, rfl, hC, h1, h2⟩ := h
  exact ⟨h0, g, c, rfl, hC, Nat.le_trans hb h1, h2⟩
theorem LR_of_R (h : (Kd.int .u8).R 5 w base ok v xs) (hp : 0 < xs.length) : LR w base ok v xs := by
  obtain ⟨g, c, rfl, hb, hl, _⟩ := Kd.R_form h hp
  obtain ⟨A, c', he, _, hC⟩ := Kd.R_reads h
  injection he with e1 e2 e3
  exact ⟨h.1, g, c, rfl, e1 ▸ hC, hb, hl⟩
end
def Full (v : Value) (xs : List Int) : Prop := ∃ g, v = .slice (some ⟨g, 0, none⟩) xs.length xs.length
section
variable {P : Program} {ops : Array Oper} {rest : List Oper} {o o2 : Oper} {a : Act} {Q : Exit → Act → World → Prop}
theorem lit_mark {W : World} {xs : List Int} (t : TypeId) (hgd : o.guard = none) (hgd2 : o2.guard = none) (ht : P.underlying t = some (.slice 5)) (he : P.underlying 5 = some (.int .u8)) (hm : xs.length ≤ 9223372036854775807)
    (hrun : (execOp a.eval o).run P W = .ok (.value (.slice (some ⟨W.heap.size, 0, none⟩) xs.length xs.length)) (W.alloc (.cells (xs.map fun x => Value.int .u8 x).toArray 5)))
    (h2 : ∀ v W', (execOp (a.put o.dst v).eval o2).run P W' = ((convert t t v).run P W').andThen fun u w' => .ok (.value u) w')
    (h : ∀ v1 w1, LR w1 W.heap.size (fun _ => True) v1 xs → Full v1 xs → Below W.heap.size W w1 → wpList P ops Q rest ((a.put o.dst v1).put o2.dst v1) w1) : wpList P ops Q (o :: o2 :: rest) a W := by
  refine Kd.event_run hgd hrun (Kd.event_run (v := .slice (some ⟨W.heap.size, 0, none⟩) xs.length xs.length) hgd2 ?_ (h _ (W.alloc (.cells (xs.map fun x => Value.int .u8 x).toArray 5 ((xs.map fun x => Value.int .u8 x).toArray.size, (xs.map fun x => Value.int .u8 x).toArray.size + 1))) ?_ ⟨_, rfl⟩ ?_))
  · rw [h2, Lib.run_convert_bytes_const W t 5 _ _ _ ht he]
    rfl
  · refine ⟨fun _ _ => trivial, _, _, rfl, Ext.C_lit W xs _ 5 _ rfl hm, Nat.le_refl _, ?_⟩
    simp [World.alloc, -World.alloc_eq]
  · exact below_alloc (Below.refl _ _) _
end
end Go.Proofs.YtmpmfdghdaofhaaDoor.Lit
