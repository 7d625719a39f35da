/-
  DERIVED. GIVEN WITH THE SEED: THE CARDS: each row of YtjicpadeplminaaDoorRows.lean that lists a variable, with what it lists TIED to the program's text (the seventh form; the later family's looks); each row that meets fmt, with fmt's text TOLD by the authors' own Lean function (tested against real Go, not proved from fmt's source: count such statements apart). THE CARD IS WHAT COUNTS. Prove the row's statement (the work); the ties are given (YtjicpadeplminaaDoorTie.lean); close each card by the builder's one call (the guide's Derived/Test/ToyasCard.lean, 'card_holds'). Laid BY PROGRAM, IN A SANDBOX (cutbox-door.mjs). By AI agents, Wed Nov 11 2026. No macro, syntax, notation, axiom, sorry.
-/
import Derived.Test.YtjicpadeplminaaDoorRows
import GoSem.ClaimSeven
namespace Go.Proofs.YtjicpadeplminaaDoor
namespace Rows

/-- THE TIED CARD OF 'laws.FnSixelColor'. -/
def fnSixelColorCard : Claim7 := { stood := { row := fnSixelColorRow, standIns := [], harness := (true, "86e01a9ec29319fffbfc88c39bd3b5ad667521f206f06a602ccec30e2e6d580d"), looks := true }, kinds := [], alts := [], laidByText := true, laidKinds := [.data, .data, .data], laidTests := true, laidLooks := .later }
def FnSixelColorCardSaid : Prop := Claim7.holds Tryd.pinned (.plain (OpenSpec.ofChange fnSixelColorSpec)) fnSixelColorCard

/-- THE TIED CARD OF 'laws.FnSixelRepeat'. -/
def fnSixelRepeatCard : Claim7 := { stood := { row := fnSixelRepeatRow, standIns := [], harness := (true, "86e01a9ec29319fffbfc88c39bd3b5ad667521f206f06a602ccec30e2e6d580d"), looks := true }, kinds := [], alts := [], laidByText := true, laidKinds := [.data, .data, .data], laidTests := true, laidLooks := .later }
def FnSixelRepeatCardSaid : Prop := Claim7.holds Tryd.pinned (.plain (OpenSpec.ofChange fnSixelRepeatSpec)) fnSixelRepeatCard

/-- THE TIED CARD OF 'laws.FnSixelRaster'. -/
def fnSixelRasterCard : Claim7 := { stood := { row := fnSixelRasterRow, standIns := [], harness := (true, "86e01a9ec29319fffbfc88c39bd3b5ad667521f206f06a602ccec30e2e6d580d"), looks := true }, kinds := [], alts := [], laidByText := true, laidKinds := [.data, .data, .data], laidTests := true, laidLooks := .later }
def FnSixelRasterCardSaid : Prop := Claim7.holds Tryd.pinned (.plain (OpenSpec.ofChange fnSixelRasterSpec)) fnSixelRasterCard

/-- THE TIED CARD OF 'laws.FnSixelBack'. -/
def fnSixelBackCard : Claim7 := { stood := { row := fnSixelBackRow, standIns := [], harness := (true, "86e01a9ec29319fffbfc88c39bd3b5ad667521f206f06a602ccec30e2e6d580d"), looks := true }, kinds := [], alts := [], laidByText := true, laidKinds := [.data, .data, .data], laidTests := true, laidLooks := .later }
def FnSixelBackCardSaid : Prop := Claim7.holds Tryd.pinned (.plain (OpenSpec.ofChange fnSixelBackSpec)) fnSixelBackCard

/-- THE SECOND FORM's CARD OF 'laws.FnSixelColor'. -/
def fnSixelColorUptoCard : Claim7 := { stood := { row := fnSixelColorUptoRow, standIns := [], harness := (true, "86e01a9ec29319fffbfc88c39bd3b5ad667521f206f06a602ccec30e2e6d580d"), looks := true }, kinds := [], alts := [], laidByText := true, laidKinds := [.data, .data, .data], laidTests := true, laidLooks := .later }
def FnSixelColorUptoCardSaid : Prop := Claim7.holds Tryd.pinned (.plain (OpenSpec.upto fnSixelColorSpec)) fnSixelColorUptoCard

/-- THE SECOND FORM's CARD OF 'laws.FnSixelRepeat'. -/
def fnSixelRepeatUptoCard : Claim7 := { stood := { row := fnSixelRepeatUptoRow, standIns := [], harness := (true, "86e01a9ec29319fffbfc88c39bd3b5ad667521f206f06a602ccec30e2e6d580d"), looks := true }, kinds := [], alts := [], laidByText := true, laidKinds := [.data, .data, .data], laidTests := true, laidLooks := .later }
def FnSixelRepeatUptoCardSaid : Prop := Claim7.holds Tryd.pinned (.plain (OpenSpec.upto fnSixelRepeatSpec)) fnSixelRepeatUptoCard

/-- THE SECOND FORM's CARD OF 'laws.FnSixelRaster'. -/
def fnSixelRasterUptoCard : Claim7 := { stood := { row := fnSixelRasterUptoRow, standIns := [], harness := (true, "86e01a9ec29319fffbfc88c39bd3b5ad667521f206f06a602ccec30e2e6d580d"), looks := true }, kinds := [], alts := [], laidByText := true, laidKinds := [.data, .data, .data], laidTests := true, laidLooks := .later }
def FnSixelRasterUptoCardSaid : Prop := Claim7.holds Tryd.pinned (.plain (OpenSpec.upto fnSixelRasterSpec)) fnSixelRasterUptoCard

/-- THE SECOND FORM's CARD OF 'laws.FnSixelBack'. -/
def fnSixelBackUptoCard : Claim7 := { stood := { row := fnSixelBackUptoRow, standIns := [], harness := (true, "86e01a9ec29319fffbfc88c39bd3b5ad667521f206f06a602ccec30e2e6d580d"), looks := true }, kinds := [], alts := [], laidByText := true, laidKinds := [.data, .data, .data], laidTests := true, laidLooks := .later }
def FnSixelBackUptoCardSaid : Prop := Claim7.holds Tryd.pinned (.plain (OpenSpec.upto fnSixelBackSpec)) fnSixelBackUptoCard
end Rows
end Go.Proofs.YtjicpadeplminaaDoor
