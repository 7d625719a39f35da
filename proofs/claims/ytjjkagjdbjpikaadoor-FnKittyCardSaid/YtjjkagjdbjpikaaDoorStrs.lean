/- A list of texts that a law is handed, as its row holds it: what a walk needs of it. No function of the program. -/
import Derived.Test.YtjjkagjdbjpikaaDoorWWords
namespace Go.Proofs.YtjjkagjdbjpikaaDoor.Strs
open Go Go.RowKit Go.Proofs.YtjjkagjdbjpikaaDoorW.PrintWords

def IsStrs (w : World) (a : Option Addr) (len cap : Nat) (zs : List ByteArray) : Prop :=
  (a = none ∧ len = 0 ∧ cap = 0 ∧ zs = []) ∨
  ∃ x, a = some x ∧ len ≤ cap ∧ cap ≤ maxLen ∧ zs.length = cap ∧ (∀ i, i < zs.length → w.cell? (x.add i) = some (.string (zs.getD i ByteArray.empty))) ∧ ∀ s ∈ zs, s.size ≤ maxLen

theorem row {w : World} {a : Option Addr} {len cap : Nat} {zs : List ByteArray} (h : IsStrs w a len cap zs) :
    ∃ l : List ByteArray, len = l.length ∧ Kd.C Kd.string w a l.length l ∧ l.length ≤ maxLen ∧ (∀ s ∈ l, s.size ≤ maxLen) ∧ l.length ≤ cap := by
  rcases h with ⟨rfl, rfl, rfl, rfl⟩ | ⟨x, rfl, hl, hm, hz, hcell, hw⟩
  · exact ⟨[], rfl, Kd.C_of_reads (enc := Value.string) (d := ByteArray.empty) (h1 := fun _ => rfl) ⟨rfl, by simp, fun h => absurd h (by simp)⟩, Nat.zero_le _, fun s hs => by simp at hs, Nat.le_refl _⟩
  · have ht : (zs.take len).length = len := by rw [List.length_take]; omega
    have hb : maxLen ≤ 9223372036854775807 := by decide
    refine ⟨zs.take len, ht.symm, Kd.C_of_reads (enc := Value.string) (d := ByteArray.empty) (h1 := fun _ => rfl) ⟨rfl, by rw [ht]; omega, fun _ => ⟨x, rfl, fun j hj => ?_⟩⟩, by rw [ht]; omega, fun s hs => hw s (List.mem_of_mem_take hs), by rw [ht]; exact hl⟩
    rw [ht] at hj
    rw [hcell j (by omega)]
    congr 2
    simp [List.getD_eq_getElem?_getD, hj]

end Go.Proofs.YtjjkagjdbjpikaaDoor.Strs
