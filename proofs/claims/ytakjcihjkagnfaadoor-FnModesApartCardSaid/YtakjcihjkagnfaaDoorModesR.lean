/- The parameter of FnMakeModes, a slice of structs of a Bool and a number, opened to what the walk reads; the law's walk in the row's form. The opening of a slice of structs is the guide's own text, copied. -/
import Derived.Test.YtakjcihjkagnfaaDoorModesL
import Derived.Deep.Slices
import Derived.Deep.Fields
import Derived.ChangeSame
import Derived.ChangeSlices
import Derived.ChangeArms
namespace Go.Proofs.YtakjcihjkagnfaaDoor.SlSt
open Go Go.RowKit Go.ChangeShapes Go.WideShapes Go.Deep Go.Proofs.YtakjcihjkagnfaaDoor.PM Go.Proofs.YtakjcihjkagnfaaDoor.Or Go.Proofs.YtakjcihjkagnfaaDoor.Mo Go.Proofs.YtakjcihjkagnfaaDoorW.PrintWords Go.Proofs.YtakjcihjkagnfaaDoorW.PrintLast Go.Proofs.YtakjcihjkagnfaaDoorW.PrintMore
set_option linter.unusedVariables false
set_option linter.unusedSimpArgs false
section
variable {H : Type} {enc : TypeId × Value → H} {P : Program} {w : World} {base : Nat} {spare : Nat → Bool} {held : Bool}
theorem open_slice_fields {t e : TypeId} {fs : Array Field} {fuel : Nat} {cs : List Value} {x : DataW H × List MemPlace} (ht : P.underlying t = some (.slice e)) (he : P.underlying e = some (.struct fs))
    (hone : oneCellFields P fs = true) (hC : P.cellsOf e = fs.size) (h : DataW.trod enc P w base spare held fuel t cs = some x) :
    (cs = [.slice none 0 0] ∧ x = (.nil, [])) ∨
    ∃ (a : Addr) (len cap m : Nat) (D : Nat → DataW H) (Pl : Nat → List MemPlace), cs = [.slice (some a) len cap] ∧ base ≤ a.block ∧ len ≤ cap ∧ cap ≤ maxLen ∧ m = (if spare a.block then cap else len) ∧
      ∀ i, i < m → ∃ (ys : List (DataW H × List MemPlace)) (n : Nat), ys.length = fs.size ∧
        ∀ (j : Nat) (f : Field), fs[j]? = some f → ∃ (v : Value) (y : DataW H × List MemPlace), w.cell? (a.add (i * fs.size + j)) = some v ∧ ys[j]? = some y ∧ DataW.trod enc P w base spare held n f.type [v] = some y := by
  rcases open_slice ht h with h0 | ⟨a, len, cap, m, n, D, Pl, hcs, hb, hl, hm, hmm, hx, hi⟩
  · exact .inl h0
  · refine .inr ⟨a, len, cap, m, D, Pl, hcs, hb, hl, hm, hmm, fun i him => ?_⟩
    obtain ⟨cs', hc, ht'⟩ := hi i him
    rw [hC] at hc
    obtain ⟨ys, n', hn', hy, hlen, hyl, hf⟩ := DataW.trod_struct he ht'
    obtain ⟨_, hcl, hat⟩ := World.cells?_some hc
    refine ⟨ys, n', hyl, fun j f hj => ?_⟩
    obtain ⟨ho, hk⟩ := hone_of hone j f hj
    have hjl : j < fs.size := (Array.getElem?_eq_some_iff.1 hj).1
    have hcell := hat j hjl
    have hv : cs'[j]? = some (cs'[j]'(by omega)) := List.getElem?_eq_getElem (by omega)
    have h1 := hf j f hj
    rw [ho, hk] at h1
    have hone' : (cs'.drop j).take 1 = [cs'[j]'(by omega)] := by
      rw [List.drop_eq_getElem_cons (by omega)]
      rfl
    rw [hone'] at h1
    have hys : ys[j]? = some (ys[j]'(by omega)) := List.getElem?_eq_getElem (by omega)
    refine ⟨_, _, ?_, hys, h1.trans hys⟩
    rw [← Go.Deep.add_add, hcell, hv]
end

/-- What a slice of structs reads as, element by element. -/
theorem C_of_each {α : Type} (d : Kd α) (z : α) (Wx : α → Prop) {w : World} {a : Addr} {len : Nat} (hlen : len ≤ 9223372036854775807)
    (h : ∀ i, i < len → ∃ x, Wx x ∧ ∃ cs : List Value, cs.length = d.sz ∧ d.K w x cs ∧ ∀ j u, cs[j]? = some u → w.cell? (a.add (i * d.sz + j)) = some u) :
    ∃ xs : List α, xs.length = len ∧ d.C w (some a) len xs ∧ ∀ x ∈ xs, Wx x := by
  have h' : ∀ i, ∃ x, i < len → Wx x ∧ ∃ cs : List Value, cs.length = d.sz ∧ d.K w x cs ∧ ∀ j u, cs[j]? = some u → w.cell? (a.add (i * d.sz + j)) = some u := fun i => by
    by_cases hi : i < len
    · obtain ⟨x, hx⟩ := h i hi
      exact ⟨x, fun _ => hx⟩
    · exact ⟨z, fun hc => absurd hc hi⟩
  refine ⟨(List.range len).map fun i => Classical.choose (h' i), by simp, ⟨by simp, hlen, fun _ => ⟨a, rfl, fun j p hj => ?_⟩⟩, fun x hx => ?_⟩
  · rw [List.getElem?_map] at hj
    rcases Nat.lt_or_ge j len with hjl | hjl
    · rw [List.getElem?_eq_getElem (by simpa using hjl)] at hj
      simp only [Option.map_some, Option.some.injEq, List.getElem_range] at hj
      have hs := Classical.choose_spec (h' j) hjl
      rw [hj] at hs
      exact hs.2
    · rw [List.getElem?_eq_none (by simpa using hjl)] at hj
      cases hj
  · obtain ⟨i, hi, rfl⟩ := List.mem_map.1 hx
    exact (Classical.choose_spec (h' i) (List.mem_range.1 hi)).1

theorem wf_i64 {a : Int} (h : (Lit.int .i64 a).wf = true) : -9223372036854775808 ≤ a ∧ a ≤ 9223372036854775807 := by
  have h1 : (decide ((-9223372036854775808 : Int) ≤ a) && decide (a ≤ 9223372036854775807)) = true := h
  simp only [Bool.and_eq_true, decide_eq_true_eq] at h1
  omega
def Wf (s : S31) : Prop := -9223372036854775808 ≤ s.f1 ∧ s.f1 ≤ 9223372036854775807
def IsSt (w : World) (a : Option Addr) (len cap : Nat) (zs : List S31) : Prop := zs.length = len ∧ len ≤ cap ∧ Kd.C k31 w a len zs ∧ ∀ s ∈ zs, Wf s
theorem opened {H : Type} {enc : TypeId × Value → H} {w : World} {fuel : Nat} {x : DataW H × List MemPlace} {a : Option Addr} {len cap : Nat} {vs : List Value} (hvs : vs = [.slice a len cap])
    (h : DataW.trod enc Tryd.prog w 0 (fun _ => true) true fuel 22 vs = some x) : ∃ zs, IsSt w a len cap zs := by
  rcases open_slice_fields Tryd.underlying22 Tryd.underlying31 (by kernel_rfl) (by kernel_rfl) h with ⟨hcs, _⟩ | ⟨ad, l, c, m, D, Pl, hcs, _, hl, hm, hmm, hi⟩
  · rw [hvs] at hcs
    simp at hcs
    obtain ⟨rfl, rfl, rfl⟩ := hcs
    exact ⟨[], rfl, Nat.le_refl _, Kd.C_nil _ _, fun s hs => (by cases hs)⟩
  · rw [hvs] at hcs
    simp at hcs
    obtain ⟨rfl, rfl, rfl⟩ := hcs
    have hmm : m = cap := hmm
    obtain ⟨zs, h1, h2, h3⟩ := C_of_each k31 z31 Wf (w := w) (a := ad) (len := len) (by unfold maxLen at hm; omega) (fun i hil => by
      obtain ⟨ys, n, _, hf⟩ := hi i (by omega)
      obtain ⟨v0, y0, c0, _, t0⟩ := hf 0 _ rfl
      obtain ⟨v1, y1, c1, _, t1⟩ := hf 1 _ rfl
      obtain ⟨b0, e0, _⟩ := DataW.trod_bool Tryd.underlying4 t0
      obtain ⟨n1, e1, _, w1⟩ := DataW.trod_int Tryd.underlying2 t1
      simp only [List.cons.injEq, and_true] at e0 e1
      subst e0 e1
      refine ⟨⟨b0, n1⟩, wf_i64 w1, _, rfl, k31_mk w ⟨b0, n1⟩, fun j u hu => ?_⟩
      show w.cell? (ad.add (i * 2 + j)) = some u
      rcases j with _ | _ | j
      · obtain rfl := Option.some.inj hu; exact c0
      · obtain rfl := Option.some.inj hu; exact c1
      · simp at hu)
    exact ⟨zs, h1, hl, h2, h3⟩

theorem walk (a0 : Int) (a1 : Option Addr) (len1 cap1 : Nat) (z1 : List S31) (w : World) (hLD : Laid w) (w0 : (Lit.int .i64 a0).wf = true) (w1 : IsSt w a1 len1 cap1 z1) :
    Calls Tryd.prog 3 #[.int .i64 a0, .slice a1 len1 cap1] w fun e w' => e = .returned (.bool true) ∧ Below w.heap.size w w' := by
  obtain ⟨rfl, hc, hC, hW⟩ := w1
  exact Mo.walk a0 a1 cap1 z1 w hC hc hW hLD
end Go.Proofs.YtakjcihjkagnfaaDoor.SlSt
