/-
  DERIVED. GIVEN WITH THE SEED: THE CARDS: each row of YtbgneopgpgpgoaaDoorRows.lean that lists a variable, with what it lists TIED to the program's text (the seventh form; the later family's looks); each row that meets fmt, with fmt's text TOLD by the authors' own Lean function (tested against real Go, not proved from fmt's source: count such statements apart). THE CARD IS WHAT COUNTS. Prove the row's statement (the work); the ties are given (YtbgneopgpgpgoaaDoorTie.lean); close each card by the builder's one call (the guide's Derived/Test/ToyasCard.lean, 'card_holds'). Laid BY PROGRAM, IN A SANDBOX (cutbox-door.mjs). By AI agents, Wed Nov 11 2026. No macro, syntax, notation, axiom, sorry.
-/
import Derived.Test.YtbgneopgpgpgoaaDoorRows
import GoSem.ClaimSeven
namespace Go.Proofs.YtbgneopgpgpgoaaDoor
namespace Rows

/-- THE TIED CARD OF 'laws.FnDiacritic'. -/
def fnDiacriticCard : Claim7 := { stood := { row := fnDiacriticRow, standIns := [], harness := (true, "627704c50cb4e442379dfd6b22398cb7d7d114f9ebf25683610a12a6626f10b9"), looks := false }, kinds := [], alts := [], laidByText := true, laidKinds := [.data, .data, .data, .data], laidTests := true, laidLooks := .later }
def FnDiacriticCardSaid : Prop := Claim7.holds Tryd.pinned (.plain (OpenSpec.ofChange fnDiacriticSpec)) fnDiacriticCard

/-- THE SECOND FORM's CARD OF 'laws.FnDiacritic'. -/
def fnDiacriticUptoCard : Claim7 := { stood := { row := fnDiacriticUptoRow, standIns := [], harness := (true, "627704c50cb4e442379dfd6b22398cb7d7d114f9ebf25683610a12a6626f10b9"), looks := false }, kinds := [], alts := [], laidByText := true, laidKinds := [.data, .data, .data, .data], laidTests := true, laidLooks := .later }
def FnDiacriticUptoCardSaid : Prop := Claim7.holds Tryd.pinned (.plain (OpenSpec.upto fnDiacriticSpec)) fnDiacriticUptoCard
end Rows
end Go.Proofs.YtbgneopgpgpgoaaDoor
