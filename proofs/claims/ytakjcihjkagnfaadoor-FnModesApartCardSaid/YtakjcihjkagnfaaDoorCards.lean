/-
  DERIVED. GIVEN WITH THE SEED: THE CARDS: each row of YtakjcihjkagnfaaDoorRows.lean that lists a variable, with what it lists TIED to the program's text (the seventh form; the later family's looks); each row that meets fmt, with fmt's text TOLD by the authors' own Lean function (tested against real Go, not proved from fmt's source: count such statements apart). THE CARD IS WHAT COUNTS. Prove the row's statement (the work); the ties are given (YtakjcihjkagnfaaDoorTie.lean); close each card by the builder's one call (the guide's Derived/Test/ToyasCard.lean, 'card_holds'). Laid BY PROGRAM, IN A SANDBOX (cutbox-door.mjs). By AI agents, Wed Nov 11 2026. No macro, syntax, notation, axiom, sorry.
-/
import Derived.Test.YtakjcihjkagnfaaDoorRows
import GoSem.ClaimSeven
namespace Go.Proofs.YtakjcihjkagnfaaDoor
namespace Rows

/-- THE TIED CARD OF 'laws.FnMakeModes'. -/
def fnMakeModesCard : Claim7 := { stood := { row := fnMakeModesRow, standIns := [], harness := (true, "d1cb5868b6ba84081067737ddc6667f24cac60b76ff90d71f2fc6c601154cb60"), looks := true }, kinds := [], alts := [], laidByText := true, laidKinds := [.data, .data, .data], laidTests := true, laidLooks := .later }
def FnMakeModesCardSaid : Prop := Claim7.holds Tryd.pinned (.plain (OpenSpec.ofChange fnMakeModesSpec)) fnMakeModesCard

/-- THE TIED CARD OF 'laws.FnModesApart'. -/
def fnModesApartCard : Claim7 := { stood := { row := fnModesApartRow, standIns := [], harness := (true, "d1cb5868b6ba84081067737ddc6667f24cac60b76ff90d71f2fc6c601154cb60"), looks := true }, kinds := [], alts := [], laidByText := true, laidKinds := [.data, .data, .data], laidTests := true, laidLooks := .later }
def FnModesApartCardSaid : Prop := Claim7.holds Tryd.pinned (.plain (OpenSpec.ofChange fnModesApartSpec)) fnModesApartCard

/-- THE SECOND FORM's CARD OF 'laws.FnMakeModes'. -/
def fnMakeModesUptoCard : Claim7 := { stood := { row := fnMakeModesUptoRow, standIns := [], harness := (true, "d1cb5868b6ba84081067737ddc6667f24cac60b76ff90d71f2fc6c601154cb60"), looks := true }, kinds := [], alts := [], laidByText := true, laidKinds := [.data, .data, .data], laidTests := true, laidLooks := .later }
def FnMakeModesUptoCardSaid : Prop := Claim7.holds Tryd.pinned (.plain (OpenSpec.upto fnMakeModesSpec)) fnMakeModesUptoCard

/-- THE SECOND FORM's CARD OF 'laws.FnModesApart'. -/
def fnModesApartUptoCard : Claim7 := { stood := { row := fnModesApartUptoRow, standIns := [], harness := (true, "d1cb5868b6ba84081067737ddc6667f24cac60b76ff90d71f2fc6c601154cb60"), looks := true }, kinds := [], alts := [], laidByText := true, laidKinds := [.data, .data, .data], laidTests := true, laidLooks := .later }
def FnModesApartUptoCardSaid : Prop := Claim7.holds Tryd.pinned (.plain (OpenSpec.upto fnModesApartSpec)) fnModesApartUptoCard
end Rows
end Go.Proofs.YtakjcihjkagnfaaDoor
