/-
  DERIVED. GIVEN WITH THE SEED: THE CARDS: each row of YtmpmfdghdaofhaaDoorRows.lean that lists a variable, with what it lists TIED to the program's text (the seventh form; the later family's looks); each row that meets fmt, with fmt's text TOLD by the authors' own Lean function (tested against real Go, not proved from fmt's source: count such statements apart). THE CARD IS WHAT COUNTS. Prove the row's statement (the work); the ties are given (YtmpmfdghdaofhaaDoorTie.lean); close each card by the builder's one call (the guide's Derived/Test/ToyasCard.lean, 'card_holds'). Laid BY PROGRAM, IN A SANDBOX (cutbox-door.mjs). By AI agents, Wed Nov 11 2026. No macro, syntax, notation, axiom, sorry.
-/
import Derived.Test.YtmpmfdghdaofhaaDoorRows
import GoSem.ClaimSeven
namespace Go.Proofs.YtmpmfdghdaofhaaDoor
namespace Rows

/-- THE TIED CARD OF 'laws.FnTransition'. -/
def fnTransitionCard : Claim7 := { stood := { row := fnTransitionRow, standIns := [], harness := (true, "1c1b3e3324172195fb2b6ea2d045ad702f7d72ec4a16b9b1f67c954c4affe09d"), looks := false }, kinds := [], alts := [], laidByText := true, laidKinds := [.data, .pinned], laidTests := true, laidLooks := .later }
def FnTransitionCardSaid : Prop := Claim7.holds Tryd.pinned (.plain (OpenSpec.ofChange fnTransitionSpec)) fnTransitionCard

/-- THE TIED CARD OF 'laws.FnGenerated'. -/
def fnGeneratedCard : Claim7 := { stood := { row := fnGeneratedRow, standIns := [], harness := (true, "1c1b3e3324172195fb2b6ea2d045ad702f7d72ec4a16b9b1f67c954c4affe09d"), looks := false }, kinds := [], alts := [], laidByText := true, laidKinds := [.data, .pinned], laidTests := true, laidLooks := .later }
def FnGeneratedCardSaid : Prop := Claim7.holds Tryd.pinned (.plain (OpenSpec.ofChange fnGeneratedSpec)) fnGeneratedCard

/-- THE TIED CARD OF 'laws.FnAdvance'. -/
def fnAdvanceCard : Claim7 := { stood := { row := fnAdvanceRow, standIns := [], harness := (true, "1c1b3e3324172195fb2b6ea2d045ad702f7d72ec4a16b9b1f67c954c4affe09d"), looks := false }, kinds := [], alts := [], laidByText := true, laidKinds := [.data, .pinned], laidTests := true, laidLooks := .later }
def FnAdvanceCardSaid : Prop := Claim7.holds Tryd.pinned (.plain (OpenSpec.ofChange fnAdvanceSpec)) fnAdvanceCard

/-- THE TIED CARD OF 'laws.FnAdvanceHolds'. -/
def fnAdvanceHoldsCard : Claim7 := { stood := { row := fnAdvanceHoldsRow, standIns := [], harness := (true, "1c1b3e3324172195fb2b6ea2d045ad702f7d72ec4a16b9b1f67c954c4affe09d"), looks := false }, kinds := [], alts := [], laidByText := true, laidKinds := [.data, .pinned], laidTests := true, laidLooks := .later }
def FnAdvanceHoldsCardSaid : Prop := Claim7.holds Tryd.pinned (.plain (OpenSpec.ofChange fnAdvanceHoldsSpec)) fnAdvanceHoldsCard

/-- THE SECOND FORM's CARD OF 'laws.FnTransition'. -/
def fnTransitionUptoCard : Claim7 := { stood := { row := fnTransitionUptoRow, standIns := [], harness := (true, "1c1b3e3324172195fb2b6ea2d045ad702f7d72ec4a16b9b1f67c954c4affe09d"), looks := false }, kinds := [], alts := [], laidByText := true, laidKinds := [.data, .pinned], laidTests := true, laidLooks := .later }
def FnTransitionUptoCardSaid : Prop := Claim7.holds Tryd.pinned (.plain (OpenSpec.upto fnTransitionSpec)) fnTransitionUptoCard

/-- THE SECOND FORM's CARD OF 'laws.FnGenerated'. -/
def fnGeneratedUptoCard : Claim7 := { stood := { row := fnGeneratedUptoRow, standIns := [], harness := (true, "1c1b3e3324172195fb2b6ea2d045ad702f7d72ec4a16b9b1f67c954c4affe09d"), looks := false }, kinds := [], alts := [], laidByText := true, laidKinds := [.data, .pinned], laidTests := true, laidLooks := .later }
def FnGeneratedUptoCardSaid : Prop := Claim7.holds Tryd.pinned (.plain (OpenSpec.upto fnGeneratedSpec)) fnGeneratedUptoCard

/-- THE SECOND FORM's CARD OF 'laws.FnAdvance'. -/
def fnAdvanceUptoCard : Claim7 := { stood := { row := fnAdvanceUptoRow, standIns := [], harness := (true, "1c1b3e3324172195fb2b6ea2d045ad702f7d72ec4a16b9b1f67c954c4affe09d"), looks := false }, kinds := [], alts := [], laidByText := true, laidKinds := [.data, .pinned], laidTests := true, laidLooks := .later }
def FnAdvanceUptoCardSaid : Prop := Claim7.holds Tryd.pinned (.plain (OpenSpec.upto fnAdvanceSpec)) fnAdvanceUptoCard

/-- THE SECOND FORM's CARD OF 'laws.FnAdvanceHolds'. -/
def fnAdvanceHoldsUptoCard : Claim7 := { stood := { row := fnAdvanceHoldsUptoRow, standIns := [], harness := (true, "1c1b3e3324172195fb2b6ea2d045ad702f7d72ec4a16b9b1f67c954c4affe09d"), looks := false }, kinds := [], alts := [], laidByText := true, laidKinds := [.data, .pinned], laidTests := true, laidLooks := .later }
def FnAdvanceHoldsUptoCardSaid : Prop := Claim7.holds Tryd.pinned (.plain (OpenSpec.upto fnAdvanceHoldsSpec)) fnAdvanceHoldsUptoCard
end Rows
end Go.Proofs.YtmpmfdghdaofhaaDoor
