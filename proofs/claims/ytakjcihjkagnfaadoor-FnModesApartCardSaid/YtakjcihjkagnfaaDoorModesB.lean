/- The law FnModesApart's walk in the row's form. -/
import Derived.Test.YtakjcihjkagnfaaDoorModesA
namespace Go.Proofs.YtakjcihjkagnfaaDoor.SlSt
open Go Go.RowKit Go.Proofs.YtakjcihjkagnfaaDoor.PM Go.Proofs.YtakjcihjkagnfaaDoor.Or Go.Proofs.YtakjcihjkagnfaaDoor.Mo Go.Proofs.YtakjcihjkagnfaaDoorW.PrintWords Go.Proofs.YtakjcihjkagnfaaDoorW.PrintLast Go.Proofs.YtakjcihjkagnfaaDoorW.PrintMore
theorem walkA (a0 : Bool) (a1 : Option Addr) (len1 cap1 : Nat) (z1 : List S31) (w : World) (hLD : Laid w) (w1 : IsSt w a1 len1 cap1 z1) :
    Calls Tryd.prog 4 #[.bool a0, .slice a1 len1 cap1] w fun e w' => e = .returned (.bool true) ∧ Below w.heap.size w w' := by
  obtain ⟨rfl, hc, hC, _⟩ := w1
  exact Mo.apart a0 a1 cap1 z1 w hC hc hLD
end Go.Proofs.YtakjcihjkagnfaaDoor.SlSt
