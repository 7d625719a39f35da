/- It is proved that the law FnButtonBits answers true: a button from 1 to 11 is read back from its byte, with its modifiers; for every byte as button and every modifiers (other buttons are let pass), with no further condition. -/
import Derived.Test.YtohblegfpghejaaDoorPBx6
import Derived.Test.YtohblegfpghejaaDoorAwakeB
namespace Go.Proofs.YtohblegfpghejaaDoor.Pure
open Go Go.RowKit Go.Proofs.YtohblegfpghejaaDoor.PB Go.Proofs.YtohblegfpghejaaDoor.Or Go.Proofs.YtohblegfpghejaaDoor.Aw Go.Proofs.YtohblegfpghejaaDoorW.PrintWords Go.Proofs.YtohblegfpghejaaDoorW.PrintLast

/-- What the byte t says of a button x: the group of its two highest bits, begun by n. -/
def Says (g n t x : Int) (m s a c : Bool) : Bool := t / 64 == g && (n + Go.bits .and .u8 t 3) % 256 == x && ((Go.bits .and .u8 t 4 != 0) == s) && ((Go.bits .and .u8 t 8 != 0) == a) && ((Go.bits .and .u8 t 16 != 0) == c) && ((Go.bits .and .u8 t 32 != 0) == m)

theorem bits_same (u : Nat) (h : u < 11) (m s a c : Bool) : (match impl_ButtonOf.f 20 ((u + 1 : Nat) : Int) m s a c with | some t => Says 0 1 t ((u + 1 : Nat) : Int) m s a c || Says 1 4 t ((u + 1 : Nat) : Int) m s a c || Says 2 8 t ((u + 1 : Nat) : Int) m s a c | none => false) = true := by
  have key : ((List.range 11).all fun u => [true, false].all fun m => [true, false].all fun s => [true, false].all fun a => [true, false].all fun c =>
      (match impl_ButtonOf.f 20 ((u + 1 : Nat) : Int) m s a c with | some t => Says 0 1 t ((u + 1 : Nat) : Int) m s a c || Says 1 4 t ((u + 1 : Nat) : Int) m s a c || Says 2 8 t ((u + 1 : Nat) : Int) m s a c | none => false)) = true := by decide +kernel
  have k : ∀ x : Bool, x ∈ [true, false] := by intro x; cases x <;> simp
  have := List.all_eq_true.1 key u (List.mem_range.2 h)
  have := List.all_eq_true.1 this m (k m)
  have := List.all_eq_true.1 this s (k s)
  have := List.all_eq_true.1 this a (k a)
  exact List.all_eq_true.1 this c (k c)

theorem FnButtonBits : laws_FnButtonBits.Pure := by
  intro b m s a c hb
  have hb := wf_u8 hb
  refine ⟨21, ?_⟩
  unfold laws_FnButtonBits.f
  by_cases h1 : b < 1
  · rw [if_pos h1]
    simp only [laws_FnButtonBits.j0, if_true, awake, Option.bind_some]
  · rw [if_neg h1]
    by_cases h2 : b > 11
    · simp only [laws_FnButtonBits.j0, h2, decide_true, if_true, awake, Option.bind_some]
    · obtain ⟨u, hu⟩ : ∃ u : Nat, b = ((u + 1 : Nat) : Int) := ⟨(b - 1).toNat, by omega⟩
      have h := bits_same u (by omega) m s a c
      rw [← hu] at h
      have hd : decide (b > 11) = false := decide_eq_false h2
      simp only [laws_FnButtonBits.j0, hd, Bool.false_eq_true, if_false, awake, Option.bind_some, if_true]
      cases ht : impl_ButtonOf.f 20 b m s a c with
      | none => rw [ht] at h; simp at h
      | some t =>
        rw [ht] at h
        have h' : (Says 0 1 t b m s a c || Says 1 4 t b m s a c || Says 2 8 t b m s a c) = true := h
        simp only [Option.bind_some]
        rw [Bool.or_eq_true, Bool.or_eq_true] at h'
        unfold Says at h'
        simp only [Bool.and_eq_true, beq_iff_eq] at h'
        rcases h' with ((⟨⟨⟨⟨⟨e1, e2⟩, e3⟩, e4⟩, e5⟩, e6⟩ | ⟨⟨⟨⟨⟨e1, e2⟩, e3⟩, e4⟩, e5⟩, e6⟩) | ⟨⟨⟨⟨⟨e1, e2⟩, e3⟩, e4⟩, e5⟩, e6⟩)
        · rw [if_pos e1, if_pos (by decide), if_pos e2, if_pos (by simp [e3]), if_pos (by simp [e4]), if_pos (by simp [e5])]
          simp [e6]
        · rw [if_neg (by omega), if_pos e1, if_pos (by decide), if_pos e2, if_pos (by simp [e3]), if_pos (by simp [e4]), if_pos (by simp [e5])]
          simp [e6]
        · rw [if_neg (by omega), if_neg (by omega), if_pos e1, if_pos (by decide), if_pos e2, if_pos (by simp [e3]), if_pos (by simp [e4]), if_pos (by simp [e5])]
          simp [e6]

end Go.Proofs.YtohblegfpghejaaDoor.Pure
