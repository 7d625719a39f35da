/- A parameter that is a slice of structs with a slice of bytes in a field, opened to what the walk reads; the law's walk out of its contract and its plain law. The opening of a slice of structs is the guide's own text, copied. -/
import Derived.Test.YtnjbobboookfmaaPureFnTableSteps
import Derived.Deep.Slices
import Derived.Deep.Fields
import Derived.ChangeSame
import Derived.ChangeSlices
import Derived.ChangeArms
namespace Go.Proofs.Ytnjbobboookfmaa.SlSt
open Go Go.RowKit Go.ChangeShapes Go.WideShapes Go.Deep Go.Proofs.Ytnjbobboookfmaa.PB Go.Proofs.Ytnjbobboookfmaa.Or Go.Proofs.Ytnjbobboookfmaa.Pure Go.Proofs.YtnjbobboookfmaaW.PrintWords Go.Proofs.YtnjbobboookfmaaW.PrintLast Go.Proofs.YtnjbobboookfmaaW.PrintMore
set_option linter.unusedVariables false
set_option linter.unusedSimpArgs false
section
variable {H : Type} {enc : TypeId × Value → H} {P : Program} {w : World} {base : Nat} {spare : Nat → Bool} {held : Bool}
theorem open_slice_fields {t e : TypeId} {fs : Array Field} {fuel : Nat} {cs : List Value} {x : DataW H × List MemPlace} (ht : P.underlying t = some (.slice e)) (he : P.underlying e = some (.struct fs))
    (hone : oneCellFields P fs = true) (hC : P.cellsOf e = fs.size) (h : DataW.trod enc P w base spare held fuel t cs = some x) :
    (cs = [.slice none 0 0] ∧ x = (.nil, [])) ∨
    ∃ (a : Addr) (len cap m : Nat) (D : Nat → DataW H) (Pl : Nat → List MemPlace), cs = [.slice (some a) len cap] ∧ base ≤ a.block ∧ len ≤ cap ∧ cap ≤ maxLen ∧ m = (if spare a.block then cap else len) ∧
      ∀ i, i < m → ∃ (ys : List (DataW H × List MemPlace)) (n : Nat), ys.length = fs.size ∧
        ∀ (j : Nat) (f : Field), fs[j]? = some f → ∃ (v : Value) (y : DataW H × List MemPlace), w.cell? (a.add (i * fs.size + j)) = some v ∧ ys[j]? = some y ∧ DataW.trod enc P w base spare held n f.type [v] = some y := by
  rcases open_slice ht h with h0 | ⟨a, len, cap, m, n, D, Pl, hcs, hb, hl, hm, hmm, hx, hi⟩
  · exact .inl h0
  · refine .inr ⟨a, len, cap, m, D, Pl, hcs, hb, hl, hm, hmm, fun i him => ?_⟩
    obtain ⟨cs', hc, ht'⟩ := hi i him
    rw [hC] at hc
    obtain ⟨ys, n', hn', hy, hlen, hyl, hf⟩ := DataW.trod_struct he ht'
    obtain ⟨_, hcl, hat⟩ := World.cells?_some hc
    refine ⟨ys, n', hyl, fun j f hj => ?_⟩
    obtain ⟨ho, hk⟩ := hone_of hone j f hj
    have hjl : j < fs.size := (Array.getElem?_eq_some_iff.1 hj).1
    have hcell := hat j hjl
    have hv : cs'[j]? = some (cs'[j]'(by omega)) := List.getElem?_eq_getElem (by omega)
    have h1 := hf j f hj
    rw [ho, hk] at h1
    have hone' : (cs'.drop j).take 1 = [cs'[j]'(by omega)] := by
      rw [List.drop_eq_getElem_cons (by omega)]
      rfl
    rw [hone'] at h1
    have hys : ys[j]? = some (ys[j]'(by omega)) := List.getElem?_eq_getElem (by omega)
    refine ⟨_, _, ?_, hys, h1.trans hys⟩
    rw [← Go.Deep.add_add, hcell, hv]
end

/-- What a slice of structs reads as, element by element. -/
theorem C_of_each {α : Type} (d : Kd α) (z : α) (Wx : α → Prop) {w : World} {a : Addr} {len : Nat} (hlen : len ≤ 9223372036854775807)
    (h : ∀ i, i < len → ∃ x, Wx x ∧ ∃ cs : List Value, cs.length = d.sz ∧ d.K w x cs ∧ ∀ j u, cs[j]? = some u → w.cell? (a.add (i * d.sz + j)) = some u) :
    ∃ xs : List α, xs.length = len ∧ d.C w (some a) len xs ∧ ∀ x ∈ xs, Wx x := by
  have h' : ∀ i, ∃ x, i < len → Wx x ∧ ∃ cs : List Value, cs.length = d.sz ∧ d.K w x cs ∧ ∀ j u, cs[j]? = some u → w.cell? (a.add (i * d.sz + j)) = some u := fun i => by
    by_cases hi : i < len
    · obtain ⟨x, hx⟩ := h i hi
      exact ⟨x, fun _ => hx⟩
    · exact ⟨z, fun hc => absurd hc hi⟩
  refine ⟨(List.range len).map fun i => Classical.choose (h' i), by simp, ⟨by simp, hlen, fun _ => ⟨a, rfl, fun j p hj => ?_⟩⟩, fun x hx => ?_⟩
  · rw [List.getElem?_map] at hj
    rcases Nat.lt_or_ge j len with hjl | hjl
    · rw [List.getElem?_eq_getElem (by simpa using hjl)] at hj
      simp only [Option.map_some, Option.some.injEq, List.getElem_range] at hj
      have hs := Classical.choose_spec (h' j) hjl
      rw [hj] at hs
      exact hs.2
    · rw [List.getElem?_eq_none (by simpa using hjl)] at hj
      cases hj
  · obtain ⟨i, hi, rfl⟩ := List.mem_map.1 hx
    exact (Classical.choose_spec (h' i) (List.mem_range.1 hi)).1

theorem wf_u8 {a : Int} (h : (Lit.int .u8 a).wf = true) : 0 ≤ a ∧ a < 256 := by
  have h1 : (decide ((0 : Int) ≤ a) && decide (a ≤ 255)) = true := h
  simp only [Bool.and_eq_true, decide_eq_true_eq] at h1
  omega
def IsSt (w : World) (a : Option Addr) (len cap : Nat) (zs : List S27) : Prop := zs.length = len ∧ len ≤ cap ∧ Kd.C k27 w a len zs ∧ ∀ s ∈ zs, Wf s

theorem ints_field {H : Type} {enc : TypeId × Value → H} {w : World} {n : Nat} {v : Value} {y : DataW H × List MemPlace} (h : DataW.trod enc Try.prog w 0 (fun _ => true) true n 23 [v] = some y) :
    ∃ A c l, v = .slice A (List.length l) c ∧ l.length ≤ c ∧ Kd.C (Kd.int .u8) w A l.length l ∧ ∀ x ∈ l, 0 ≤ x ∧ x < 256 := by
  rcases open_ints Try.underlying23 Try.underlying5 (by kernel_rfl) h with ⟨hcs, _⟩ | ⟨x, l, c, zs, hcs, _, hl, hm, hz, _, hcell, hwz⟩
  · obtain rfl : v = .slice none 0 0 := by simpa using hcs
    exact ⟨none, 0, [], rfl, Nat.le_refl _, Kd.C_nil _ _, fun x hx => (by cases hx)⟩
  · obtain rfl : v = .slice (some x) l c := by simpa using hcs
    obtain ⟨l0, rfl, hr0, hm0, hw0, hc0⟩ := ReadsInt.ofRowC (k := .u8) (w := w) (a := some x) (len := l) (cap := c) (zs := zs) (.inr ⟨x, rfl, hl, hm, by simpa using hz, hcell, hwz⟩)
    exact ⟨some x, c, l0, rfl, hc0, Kd.C_of_reads (d := (0 : Int)) (h1 := fun _ => rfl) hr0, fun q hq => wf_u8 (hw0 q hq)⟩

theorem opened {H : Type} {enc : TypeId × Value → H} {w : World} {fuel : Nat} {x : DataW H × List MemPlace} {a : Option Addr} {len cap : Nat} {vs : List Value} (hvs : vs = [.slice a len cap])
    (h : DataW.trod enc Try.prog w 0 (fun _ => true) true fuel 22 vs = some x) : ∃ zs, IsSt w a len cap zs := by
  rcases open_slice_fields Try.underlying22 Try.underlying27 (by kernel_rfl) (by kernel_rfl) h with ⟨hcs, _⟩ | ⟨ad, l, c, m, D, Pl, hcs, _, hl, hm, hmm, hi⟩
  · rw [hvs] at hcs
    simp at hcs
    obtain ⟨rfl, rfl, rfl⟩ := hcs
    exact ⟨[], rfl, Nat.le_refl _, Kd.C_nil _ _, fun s hs => (by cases hs)⟩
  · rw [hvs] at hcs
    simp at hcs
    obtain ⟨rfl, rfl, rfl⟩ := hcs
    have hmm : m = cap := hmm
    obtain ⟨zs, h1, h2, h3⟩ := C_of_each k27 z27 Wf (w := w) (a := ad) (len := len) (by unfold maxLen at hm; omega) (fun i hil => by
      obtain ⟨ys, n, _, hf⟩ := hi i (by omega)
      obtain ⟨v0, y0, c0, _, t0⟩ := hf 0 _ rfl
      obtain ⟨v1, y1, c1, _, t1⟩ := hf 1 _ rfl
      obtain ⟨v2, y2, c2, _, t2⟩ := hf 2 _ rfl
      obtain ⟨v3, y3, c3, _, t3⟩ := hf 3 _ rfl
      obtain ⟨v4, y4, c4, _, t4⟩ := hf 4 _ rfl
      obtain ⟨v5, y5, c5, _, t5⟩ := hf 5 _ rfl
      obtain ⟨v6, y6, c6, _, t6⟩ := hf 6 _ rfl
      obtain ⟨n0, e0, _, w0⟩ := DataW.trod_int Try.underlying2 t0
      obtain ⟨n1, e1, _, w1⟩ := DataW.trod_int Try.underlying5 t1
      obtain ⟨n2, e2, _, w2⟩ := DataW.trod_int Try.underlying5 t2
      obtain ⟨n3, e3, _, w3⟩ := DataW.trod_int Try.underlying5 t3
      obtain ⟨A4, q4, l4, rfl, hq4, hC4, hw4⟩ := ints_field t4
      obtain ⟨n5, e5, _, w5⟩ := DataW.trod_int Try.underlying5 t5
      obtain ⟨n6, e6, _, w6⟩ := DataW.trod_int Try.underlying5 t6
      simp only [List.cons.injEq, and_true] at e0 e1 e2 e3 e5 e6
      subst e0 e1 e2 e3 e5 e6
      refine ⟨⟨n0, n1, n2, n3, l4, n5, n6⟩, ⟨wf_u8 w1, wf_u8 w2, wf_u8 w3, hw4, wf_u8 w5, wf_u8 w6⟩, _, rfl, k27_mk w ⟨n0, n1, n2, n3, l4, n5, n6⟩ hq4 hC4, fun j u hu => ?_⟩
      show w.cell? (ad.add (i * 7 + j)) = some u
      rcases j with _ | _ | _ | _ | _ | _ | _ | j
      · obtain rfl := Option.some.inj hu; exact c0
      · obtain rfl := Option.some.inj hu; exact c1
      · obtain rfl := Option.some.inj hu; exact c2
      · obtain rfl := Option.some.inj hu; exact c3
      · obtain rfl := Option.some.inj hu; exact c4
      · obtain rfl := Option.some.inj hu; exact c5
      · obtain rfl := Option.some.inj hu; exact c6
      · simp at hu)
    exact ⟨zs, h1, hl, h2, h3⟩

theorem heap27 : Kd.Heap k27 := Kd.heap_iso _ (Kd.heap_pair (Kd.heap_int _) (Kd.heap_pair (Kd.heap_int _) (Kd.heap_pair (Kd.heap_int _) (Kd.heap_pair (Kd.heap_int _) (Kd.heap_pair (Kd.heap_slice _ (Kd.heap_int _)) (Kd.heap_pair (Kd.heap_int _) (Kd.heap_int _)))))))

theorem walk (P : PureFnTableSteps) (a0 : Option Addr) (len0 cap0 : Nat) (z0 : List S27) (a1 : Option Addr) (len1 cap1 : Nat) (z1 : List Int) (a2 : Option Addr) (len2 cap2 : Nat) (z2 : List Int) (w : World) (w0 : IsSt w a0 len0 cap0 z0)
    (w1 : (a1 = none ∧ len1 = 0 ∧ cap1 = 0 ∧ z1 = []) ∨ ∃ x, a1 = some x ∧ len1 ≤ cap1 ∧ cap1 ≤ maxLen ∧ z1.length = cap1 ∧ (∀ i, i < z1.length → w.cell? (x.add i) = some (.int .u8 (z1.getD i 0))) ∧ ∀ n ∈ z1, (Lit.int .u8 n).wf = true) (_y1 : len1 * 1 ≤ 140737488351232)
    (w2 : (a2 = none ∧ len2 = 0 ∧ cap2 = 0 ∧ z2 = []) ∨ ∃ x, a2 = some x ∧ len2 ≤ cap2 ∧ cap2 ≤ maxLen ∧ z2.length = cap2 ∧ (∀ i, i < z2.length → w.cell? (x.add i) = some (.int .u8 (z2.getD i 0))) ∧ ∀ n ∈ z2, (Lit.int .u8 n).wf = true) (_y2 : len2 * 1 ≤ 140737488351232) :
    Calls Try.prog 3 #[.slice a0 len0 cap0, .slice a1 len1 cap1, .slice a2 len2 cap2] w fun e w' => e = .returned (.bool true) ∧ Below w.heap.size w w' := by
  obtain ⟨rfl, hc0, hC0, hW0⟩ := w0
  obtain ⟨l1, rfl, hr1, hm1, hw1, hc1⟩ := ReadsInt.ofRowC w1
  obtain ⟨l2, rfl, hr2, hm2, hw2, hc2⟩ := ReadsInt.ofRowC w2
  obtain ⟨k, h⟩ := P z0 l1 l2 hW0 (fun q hq => wf_u8 (hw1 q hq)) (fun q hq => wf_u8 (hw2 q hq))
  refine (laws_FnTableSteps.calls k (fun k_ => k_ < w.heap.size) a0 cap0 z0 _ _ l1 _ _ l2 true w (Kd.V_mk hc0 (Kd.C_F heap27 hC0)) (Kd.C_of_reads (d := (0 : Int)) (h1 := fun _ => rfl) hr1) hc1 (Kd.C_of_reads (d := (0 : Int)) (h1 := fun _ => rfl) hr2) hc2 h).mono ?_
  rintro e w' ⟨rfl, hd⟩
  exact ⟨rfl, hd⟩
end Go.Proofs.Ytnjbobboookfmaa.SlSt
