/- What ReadSequence reads of a control sequence, as a plain function, and the parameters' own kind. No walk. -/
import Derived.Test.YtakjcihjkagnfaaDoorOr
import Derived.Test.YtakjcihjkagnfaaDoorWWords
import Derived.Test.YtakjcihjkagnfaaDoorWLast
import Derived.WalkKit
import Derived.KernelRfl
import Derived.Lib.Hide
namespace Go.Proofs.YtakjcihjkagnfaaDoor.Or
set_option linter.unusedVariables false
open Go Go.RowKit Go.Proofs.YtakjcihjkagnfaaDoorW.PrintWords Go.Proofs.YtakjcihjkagnfaaDoorW.PrintLast

/-! #### the parameters' kind -/
structure S36 where
  f0 : Int
  f1 : Bool
  f2 : Bool
def z36 : S36 := ⟨(0 : Int), false, false⟩
def k36 : Kd S36 := Kd.iso (Kd.pair (Kd.int .i64) (Kd.pair Kd.bool Kd.bool)) (fun x : S36 => (x.f0, x.f1, x.f2))
theorem k36_open {w : World} {x : S36} {cs : List Value} (h : k36.K w x cs) : cs = [.int .i64 x.f0, .bool x.f1, .bool x.f2] := by
  obtain ⟨_, _, rfl, rfl, ⟨_, _, rfl, rfl, rfl⟩⟩ := h
  exact rfl
theorem k36_openM {w : World} {base : Nat} {ok : Nat → Prop} {x : S36} {cs : List Value} (h : k36.M w base ok x cs) : cs = [.int .i64 x.f0, .bool x.f1, .bool x.f2] := by
  obtain ⟨_, _, rfl, rfl, ⟨_, _, rfl, rfl, rfl⟩⟩ := h
  exact rfl
theorem k36_mk (w : World) (x : S36)  : k36.K w x [.int .i64 x.f0, .bool x.f1, .bool x.f2] := ⟨[.int .i64 x.f0], [.bool x.f1, .bool x.f2], rfl, rfl, ⟨[.bool x.f1], [.bool x.f2], rfl, rfl, rfl⟩⟩
theorem k36_mkM (w : World) (base : Nat) (ok : Nat → Prop) (x : S36)  : k36.M w base ok x [.int .i64 x.f0, .bool x.f1, .bool x.f2] := ⟨[.int .i64 x.f0], [.bool x.f1, .bool x.f2], rfl, rfl, ⟨[.bool x.f1], [.bool x.f2], rfl, rfl, rfl⟩⟩
def rd_T36 (xs : List S36) (i : Int) : S36 := xs.getD i.toNat z36
theorem at_T36 {w : World} {A : Option Addr} {n : Nat} {xs : List S36} (h : Kd.C k36 w A n xs) (i : Int) (h0 : 0 ≤ i) (h1 : i < n) : ∃ ad , A = some ad ∧ w.cell? (ad.add (i.toNat * 3)) = some (.int .i64 (rd_T36 xs i).f0) ∧ w.cell? ⟨(ad.add (i.toNat * 3)).block, (ad.add (i.toNat * 3)).off + 1, none⟩ = some (.bool (rd_T36 xs i).f1) ∧ w.cell? ⟨(ad.add (i.toNat * 3)).block, (ad.add (i.toNat * 3)).off + 2, none⟩ = some (.bool (rd_T36 xs i).f2) := by
  obtain ⟨ad, c, e, _, hK, hc0⟩ := Kd.C_get h z36 i h0 h1
  have hc : ∀ j u, c[j]? = some u → w.cell? (ad.add (i.toNat * 3 + j)) = some u := hc0
  obtain rfl := k36_open hK
  exact ⟨ad, e, hc 0 _ rfl, by rw [← add_field _ _ 1 (by omega)]; exact hc 1 _ rfl, by rw [← add_field _ _ 2 (by omega)]; exact hc 2 _ rfl⟩

/-! #### the plain function -/
/-- Parameters, one byte behind another: what is gathered, the number so far, whether it is missing, and what is left. -/
def scanP : List Int → List S36 → Int → Bool → Option (List S36 × Int × Bool × List Int)
  | [], acc, v, m => some (acc, v, m, [])
  | c :: t, acc, v, m =>
    if 48 ≤ c ∧ c ≤ 59 then
      if c = 59 then scanP t (acc ++ [⟨v, m, false⟩]) 0 true
      else if c = 58 then scanP t (acc ++ [⟨v, m, true⟩]) 0 true
      else if v > 100000 then none else scanP t acc (v * 10 + (c - 48)) false
    else some (acc, v, m, c :: t)
def scanI : List Int → List Int → List Int × List Int
  | [], is => (is, [])
  | c :: t, is => if 32 ≤ c ∧ c ≤ 47 then scanI t (is ++ [c]) else (is, c :: t)
def pre : List Int → Int × List Int
  | [] => (0, [])
  | c :: t => if 60 ≤ c ∧ c ≤ 63 then (c, t) else (0, c :: t)
/-- Prefix, parameters, intermediates and the final byte of what stands behind the introducer, if it is just that. -/
def body (r : List Int) : Option (Int × List S36 × List Int × Int) :=
  match scanP (pre r).2 [] 0 true with
  | none => none
  | some (acc, v, m, t2) =>
    match scanI t2 [] with
    | (is, [c]) => if 64 ≤ c ∧ c ≤ 126 then some ((pre r).1, if t2.length < (pre r).2.length then acc ++ [⟨v, m, false⟩] else acc, is, c) else none
    | _ => none
def readT : List Int → Option (Int × List S36 × List Int × Int)
  | 27 :: 91 :: r => body r
  | _ => none
end Go.Proofs.YtakjcihjkagnfaaDoor.Or
