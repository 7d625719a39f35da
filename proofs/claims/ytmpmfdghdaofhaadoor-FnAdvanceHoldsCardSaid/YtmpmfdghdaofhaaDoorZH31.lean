/- Texts of this claim, joined; what isn't needed is left out (wip/slim.py). -/
import Derived.Test.YtmpmfdghdaofhaaDoorZH29
import Derived.Test.YtmpmfdghdaofhaaDoorZH30
namespace Go.Proofs.YtmpmfdghdaofhaaDoor.Ma
set_option linter.unusedVariables false
set_option linter.unusedSimpArgs false
open Go Go.RowKit Go.Proofs.YtmpmfdghdaofhaaDoorW.PrintWords Go.Proofs.YtmpmfdghdaofhaaDoorW.PrintLast Go.Proofs.YtmpmfdghdaofhaaDoorW.PrintMore
noncomputable def okAt (i : Nat) (b : UInt8) : Bool :=
  decide (PK.spec_Transition.f 40 ((i / 256 : Nat) : Int) ((i % 256 : Nat) : Int) = some (Go.bits .and .u8 (b.toNat : Int) 15, (b.toNat : Int) / 16))
noncomputable def chk : Nat → List UInt8 → Bool
  | _, [] => true
  | i, b :: l => (decide (3840 ≤ i) || okAt i b) && chk (i + 1) l
theorem chk_at : ∀ (l : List UInt8) (i k : Nat) (b : UInt8), chk i l = true → l[k]? = some b → i + k < 3840 → okAt (i + k) b = true := by
  intro l
  induction l with
  | nil => intro i k b _ h; simp at h
  | cons x l ih =>
    intro i k b hc h hk
    simp only [chk, Bool.and_eq_true, Bool.or_eq_true, decide_eq_true_eq] at hc
    cases k with
    | zero =>
      simp only [List.getElem?_cons_zero, Option.some.injEq] at h
      subst h
      rcases hc.1 with h1 | h1
      · omega
      · simpa using h1
    | succ k =>
      have := ih (i + 1) k b hc.2 (by simpa using h) (by omega)
      rwa [show i + 1 + k = i + (k + 1) by omega] at this
set_option maxRecDepth 100000 in
theorem chk_zz : chk 0 zz.data.toList = true := by decide +kernel
theorem spec_is (st c : Int) (h0 : 0 ≤ st) (h1 : st < 15) (h2 : 0 ≤ c) (h3 : c < 256) : PK.spec_Transition.f 40 st c = some (nx st c, ac st c) := by
  have hlt : (st * 256 + c).toNat < zz.data.toList.length := by
    rw [Array.length_toList]
    show _ < zz.size
    rw [zz_size]
    omega
  have h := chk_at zz.data.toList 0 (st * 256 + c).toNat _ chk_zz (List.getElem?_eq_getElem hlt) (by omega)
  unfold okAt at h
  have e1 : (((0 + (st * 256 + c).toNat) / 256 : Nat) : Int) = st := by omega
  have e2 : (((0 + (st * 256 + c).toNat) % 256 : Nat) : Int) = c := by omega
  rw [e1, e2] at h
  have h' := of_decide_eq_true h
  rw [h']
  unfold nx ac ent
  rw [List.getD_eq_getElem?_getD, List.getElem?_eq_getElem hlt]
  rfl
end Go.Proofs.YtmpmfdghdaofhaaDoor.Ma
