/- Numbers with semicolons between them, read from a list of bytes: the one plain function that the decoders and the reference both compute. No memory, no Go. -/
import Derived.RowKit
namespace Go.Proofs.YtjicpadeplminaaDoor.Nums
open Go Go.RowKit

/-- One byte behind another: from the place 'at' on (m: the last one), with the values so far; the values, and how many bytes are read. -/
def nums (m : Nat) : List Int → Nat → List Int → List Int × Nat
  | [], _, v => (v, 0)
  | c :: t, at_, v =>
    if 48 ≤ c ∧ c ≤ 57 then ((nums m t at_ (v.set at_ (wrap64 (wrap64 (v.getD at_ 0 * 10) + (c - 48))))).1, (nums m t at_ (v.set at_ (wrap64 (wrap64 (v.getD at_ 0 * 10) + (c - 48))))).2 + 1)
    else if c = 59 then if at_ = m then (v, 1) else ((nums m t (at_ + 1) v).1, (nums m t (at_ + 1) v).2 + 1)
    else (v, 0)

theorem nums_le (m : Nat) : ∀ (l : List Int) (a : Nat) (v : List Int), (nums m l a v).2 ≤ l.length
  | [], _, _ => Nat.zero_le _
  | c :: t, a, v => by
    unfold nums
    have h1 := nums_le m t a (v.set a (wrap64 (wrap64 (v.getD a 0 * 10) + (c - 48))))
    have h2 := nums_le m t (a + 1) v
    simp only [List.length_cons]
    split
    · simp only; omega
    · split
      · split
        · simp only; omega
        · simp only; omega
      · simp only; omega

theorem nums_length (m : Nat) : ∀ (l : List Int) (a : Nat) (v : List Int), (nums m l a v).1.length = v.length
  | [], _, _ => rfl
  | c :: t, a, v => by
    unfold nums
    have h1 := nums_length m t a (v.set a (wrap64 (wrap64 (v.getD a 0 * 10) + (c - 48))))
    have h2 := nums_length m t (a + 1) v
    split
    · simpa using h1
    · split
      · split
        · rfl
        · exact h2
      · rfl

/-- What is still to be read at index k: the whole answer is this. -/
def Still (m : Nat) (l : List Int) (k a : Nat) (v : List Int) (r : List Int × Nat) : Prop := r.1 = (nums m (l.drop k) a v).1 ∧ r.2 = (nums m (l.drop k) a v).2 + k

theorem Still.end_ {m : Nat} {l : List Int} {k a : Nat} {v : List Int} {r : List Int × Nat} (h : Still m l k a v r) (hk : k = l.length) : r = (v, k) := by
  obtain ⟨h1, h2⟩ := h
  rw [List.drop_of_length_le (by omega)] at h1 h2
  simp only [nums] at h1 h2
  exact Prod.ext h1 (by simp [h2])

theorem Still.digit {m : Nat} {l : List Int} {k a : Nat} {v : List Int} {r : List Int × Nat} (h : Still m l k a v r) (hk : k < l.length) (h0 : 48 ≤ l[k]) (h1 : l[k] ≤ 57) :
    Still m l (k + 1) a (v.set a (wrap64 (wrap64 (v.getD a 0 * 10) + (l[k] - 48)))) r := by
  obtain ⟨e1, e2⟩ := h
  rw [List.drop_eq_getElem_cons hk] at e1 e2
  unfold nums at e1 e2
  rw [if_pos ⟨h0, h1⟩] at e1 e2
  exact ⟨e1, by rw [e2]; simp only; omega⟩

theorem Still.semi {m : Nat} {l : List Int} {k a : Nat} {v : List Int} {r : List Int × Nat} (h : Still m l k a v r) (hk : k < l.length) (h0 : l[k] = 59) (ha : a ≠ m) : Still m l (k + 1) (a + 1) v r := by
  obtain ⟨e1, e2⟩ := h
  rw [List.drop_eq_getElem_cons hk] at e1 e2
  unfold nums at e1 e2
  rw [if_neg (by omega), if_pos h0, if_neg ha] at e1 e2
  exact ⟨e1, by rw [e2]; simp only; omega⟩

theorem Still.last {m : Nat} {l : List Int} {k a : Nat} {v : List Int} {r : List Int × Nat} (h : Still m l k a v r) (hk : k < l.length) (h0 : l[k] = 59) (ha : a = m) : r = (v, k + 1) := by
  obtain ⟨e1, e2⟩ := h
  rw [List.drop_eq_getElem_cons hk] at e1 e2
  unfold nums at e1 e2
  rw [if_neg (by omega), if_pos h0, if_pos ha] at e1 e2
  exact Prod.ext e1 (by rw [e2]; simp only; omega)

theorem Still.other {m : Nat} {l : List Int} {k a : Nat} {v : List Int} {r : List Int × Nat} (h : Still m l k a v r) (hk : k < l.length) (h0 : l[k] ≠ 59) (h1 : ¬ (48 ≤ l[k] ∧ l[k] ≤ 57)) : r = (v, k) := by
  obtain ⟨e1, e2⟩ := h
  rw [List.drop_eq_getElem_cons hk] at e1 e2
  unfold nums at e1 e2
  rw [if_neg h1, if_neg h0] at e1 e2
  exact Prod.ext e1 (by rw [e2]; simp)

/-- Raster attributes: four numbers behind a quotation mark. -/
def rast (l : List Int) : List Int × Nat := if l.length = 0 ∨ l.getD 0 0 ≠ 34 then ([0, 0, 0, 0], 0) else ((nums 3 (l.drop 1) 0 [0, 0, 0, 0]).1, (nums 3 (l.drop 1) 0 [0, 0, 0, 0]).2 + 1)
/-- A color: two numbers behind a number sign, three more. -/
def colr (l : List Int) : List Int × List Int × Nat :=
  if l.length < 2 ∨ l.getD 0 0 ≠ 35 then ([0, 0], [0, 0, 0], 0)
  else ((nums 1 (l.drop 1) 0 [0, 0]).1, (nums 2 (l.drop ((nums 1 (l.drop 1) 0 [0, 0]).2 + 1)) 0 [0, 0, 0]).1, (nums 2 (l.drop ((nums 1 (l.drop 1) 0 [0, 0]).2 + 1)) 0 [0, 0, 0]).2 + ((nums 1 (l.drop 1) 0 [0, 0]).2 + 1))
end Go.Proofs.YtjicpadeplminaaDoor.Nums
