/- It is proved that the law FnBegins answers true: a text has a prefix, or a suffix, just if it begins, or ends, with it, and is equal to itself alone; for every two lists of bytes, with no further condition. -/
import Derived.Test.YtinddalpchkllaaPXx1
namespace Go.Proofs.Ytinddalpchkllaa.Pure
open Go.RowKit Go.Proofs.Ytinddalpchkllaa.PX Go.Proofs.Ytinddalpchkllaa.Or Go.Proofs.YtinddalpchkllaaW.PrintWords Go.Proofs.YtinddalpchkllaaW.PrintLast Go.Proofs.YtinddalpchkllaaW.PrintMore

def eqb (a b : List Int) : Bool := (strOfNums a).toList == (strOfNums b).toList
theorem eqb_self (a : List Int) : eqb a a = true := by unfold eqb; simp
theorem clone (a : List Int) (h : a.length < 140737488355328) : bytes_Clone.f a = some a := by unfold bytes_Clone.f; rw [if_pos h]
theorem own (a : List Int) (h : a.length < 140737488355328) : impl_own.f a = some a := by unfold impl_own.f; rw [if_pos (by simpa using h)]; rfl
theorem same (a b : List Int) : bytes_Equal.f a b = some (eqb a b) := rfl

theorem begins (a b : List Int) (ha : a.length < 1000) (hb : b.length < 1000) : impl_Begins.f a b = some (if b.length ≤ a.length then eqb (a.take b.length) b else false) := by
  unfold impl_Begins.f
  rw [own a (by omega), own b (by omega)]
  simp only [Option.bind_some]
  unfold xansi_HasPrefix_byte.f
  by_cases h : b.length ≤ a.length
  · rw [if_pos (by omega), if_pos (by omega), if_pos (by omega), if_pos h]
    rfl
  · rw [if_neg (by omega), if_neg h]
    rfl

theorem ends (a b : List Int) (ha : a.length < 1000) (hb : b.length < 1000) : impl_Ends.f a b = some (if b.length ≤ a.length then eqb (a.drop (a.length - b.length)) b else false) := by
  unfold impl_Ends.f
  rw [own a (by omega), own b (by omega)]
  simp only [Option.bind_some]
  unfold xansi_HasSuffix_byte.f
  by_cases h : b.length ≤ a.length
  · have e : wrap64 ((a.length : Int) - (b.length : Int)) = ((a.length - b.length : Nat) : Int) := by unfold wrap64; omega
    rw [e, if_pos (by omega), if_pos (by omega), if_pos (by omega), if_pos h, Int.toNat_natCast]
    rfl
  · rw [if_neg (by omega), if_neg h]
    rfl

theorem FnBegins : laws_FnBegins.Pure := by
  intro a b _ _ _ _ _ _
  refine ⟨10, ?_⟩
  unfold laws_FnBegins.f
  by_cases h1 : (a.length : Int) > 2147483647
  · rw [if_pos h1]
    simp only [laws_FnBegins.j0, if_true]
  rw [if_neg h1]
  by_cases h2 : (b.length : Int) > 2147483647
  · rw [decide_eq_true h2]
    simp only [laws_FnBegins.j0, if_true]
  rw [decide_eq_false h2]
  simp only [laws_FnBegins.j0]
  rw [if_neg (by decide)]
  by_cases h3 : (a.length : Int) > 200
  · rw [if_pos h3]
    simp only [laws_FnBegins.j1, if_true]
  rw [if_neg h3]
  by_cases h4 : (b.length : Int) > 200
  · rw [decide_eq_true h4]
    simp only [laws_FnBegins.j1, if_true]
  rw [decide_eq_false h4]
  simp only [laws_FnBegins.j1]
  rw [if_neg (by decide), clone a (by omega)]
  simp only [Option.bind_some]
  rw [if_pos (by omega)]
  have hw : (a ++ b).length = a.length + b.length := List.length_append
  have last : ∀ x y, x = (if b.length ≤ a.length then eqb (a.take b.length) b else false) → y = (if b.length ≤ a.length then eqb (a.drop (a.length - b.length)) b else false) → laws_FnBegins.j2 8 a b (a ++ b) x y = some true := by
    intro x y hx hy
    have b1 : impl_Begins.f (a ++ b) a = some true := by
      rw [begins _ _ (by omega) (by omega), if_pos (by omega), List.take_left', eqb_self]; rfl
    have b2 : impl_Ends.f (a ++ b) b = some true := by
      rw [ends _ _ (by omega) (by omega), if_pos (by omega), List.drop_left' (by omega), eqb_self]
    have s1 : impl_Same.f (strOfNums a) (strOfNums b) = some (eqb a b) := rfl
    have s2 : impl_Same.f (strOfNums a) (strOfNums a) = some (eqb a a) := rfl
    simp only [laws_FnBegins.j2, clone (a ++ b) (by omega), clone a (by omega), clone b (by omega), Option.bind_some, b1, b2, if_true, begins a b (by omega) (by omega), ends a b (by omega) (by omega), ← hx, ← hy, s1, s2, same, eqb_self, beq_self_eq_true]
  by_cases h5 : b.length ≤ a.length
  · have e1 : mn (a.length : Int) (b.length : Int) = (b.length : Int) := by unfold mn; split <;> omega
    have e2 : wrap64 ((a.length : Int) - (b.length : Int)) = ((a.length - b.length : Nat) : Int) := by unfold wrap64; omega
    have e3 : mx ((a.length - b.length : Nat) : Int) 0 = ((a.length - b.length : Nat) : Int) := by unfold mx; split <;> omega
    rw [if_pos (by omega), e1, if_pos (by omega), if_pos (by omega), same]
    simp only [Option.bind_some]
    rw [e2, e3, if_pos (by omega), if_pos (by omega), same, Int.toNat_natCast, Int.toNat_natCast]
    simp only [Option.bind_some]
    exact last _ _ (by rw [if_pos h5]) (by rw [if_pos h5])
  · rw [if_neg (by omega)]
    exact last _ _ (by rw [if_neg h5]) (by rw [if_neg h5])

end Go.Proofs.Ytinddalpchkllaa.Pure
