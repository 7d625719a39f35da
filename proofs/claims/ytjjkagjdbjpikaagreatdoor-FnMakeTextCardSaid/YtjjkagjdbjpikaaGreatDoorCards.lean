/-
  DERIVED. GIVEN WITH THE SEED: THE CARDS: each row of YtjjkagjdbjpikaaGreatDoorRows.lean that lists a variable, with what it lists TIED to the program's text (the seventh form; the later family's looks); each row that meets fmt, with fmt's text TOLD by the authors' own Lean function (tested against real Go, not proved from fmt's source: count such statements apart). THE CARD IS WHAT COUNTS. Prove the row's statement (the work); the ties are given (YtjjkagjdbjpikaaGreatDoorTie.lean); close each card by the builder's one call (the guide's Derived/Test/ToyasCard.lean, 'card_holds'). Laid BY PROGRAM, IN A SANDBOX (cutbox-door.mjs). By AI agents, Wed Nov 11 2026. No macro, syntax, notation, axiom, sorry.
-/
import Derived.Test.YtjjkagjdbjpikaaGreatDoorRows
import GoSem.ClaimSeven
namespace Go.Proofs.YtjjkagjdbjpikaaGreatDoor
namespace Rows

/-- THE TIED CARD OF 'laws.FnTextRead'. -/
def fnTextReadCard : Claim7 := { stood := { row := fnTextReadRow, standIns := [], harness := (true, "453d2542e7bac4111b97d6340462ca0ed21199dc4216775627f9f24b60f4bc30"), looks := false }, kinds := [], alts := [], laidByText := true, laidKinds := [.data, .data, .data, .data, .sentinel, .pinned], laidTests := true, laidLooks := .later }
def FnTextReadCardSaid : Prop := Claim7.holds Tryz.pinned (.plain (OpenSpec.ofChange fnTextReadSpec)) fnTextReadCard

/-- THE TIED CARD OF 'laws.FnTmux'. -/
def fnTmuxCard : Claim7 := { stood := { row := fnTmuxRow, standIns := [], harness := (true, "453d2542e7bac4111b97d6340462ca0ed21199dc4216775627f9f24b60f4bc30"), looks := false }, kinds := [], alts := [], laidByText := true, laidKinds := [.data, .data, .data, .data, .sentinel, .pinned], laidTests := true, laidLooks := .later }
def FnTmuxCardSaid : Prop := Claim7.holds Tryz.pinned (.plain (OpenSpec.ofChange fnTmuxSpec)) fnTmuxCard

/-- THE TIED CARD OF 'laws.FnMakeText'. -/
def fnMakeTextCard : Claim7 := { stood := { row := fnMakeTextRow, standIns := [], harness := (true, "453d2542e7bac4111b97d6340462ca0ed21199dc4216775627f9f24b60f4bc30"), looks := false }, kinds := [], alts := [], laidByText := true, laidKinds := [.data, .data, .data, .data, .sentinel, .pinned], laidTests := true, laidLooks := .later }
def FnMakeTextCardSaid : Prop := Claim7.holds Tryz.pinned (.plain (OpenSpec.ofChange fnMakeTextSpec)) fnMakeTextCard

/-- THE SECOND FORM's CARD OF 'laws.FnTextRead'. -/
def fnTextReadUptoCard : Claim7 := { stood := { row := fnTextReadUptoRow, standIns := [], harness := (true, "453d2542e7bac4111b97d6340462ca0ed21199dc4216775627f9f24b60f4bc30"), looks := false }, kinds := [], alts := [], laidByText := true, laidKinds := [.data, .data, .data, .data, .sentinel, .pinned], laidTests := true, laidLooks := .later }
def FnTextReadUptoCardSaid : Prop := Claim7.holds Tryz.pinned (.plain (OpenSpec.upto fnTextReadSpec)) fnTextReadUptoCard

/-- THE SECOND FORM's CARD OF 'laws.FnTmux'. -/
def fnTmuxUptoCard : Claim7 := { stood := { row := fnTmuxUptoRow, standIns := [], harness := (true, "453d2542e7bac4111b97d6340462ca0ed21199dc4216775627f9f24b60f4bc30"), looks := false }, kinds := [], alts := [], laidByText := true, laidKinds := [.data, .data, .data, .data, .sentinel, .pinned], laidTests := true, laidLooks := .later }
def FnTmuxUptoCardSaid : Prop := Claim7.holds Tryz.pinned (.plain (OpenSpec.upto fnTmuxSpec)) fnTmuxUptoCard

/-- THE SECOND FORM's CARD OF 'laws.FnMakeText'. -/
def fnMakeTextUptoCard : Claim7 := { stood := { row := fnMakeTextUptoRow, standIns := [], harness := (true, "453d2542e7bac4111b97d6340462ca0ed21199dc4216775627f9f24b60f4bc30"), looks := false }, kinds := [], alts := [], laidByText := true, laidKinds := [.data, .data, .data, .data, .sentinel, .pinned], laidTests := true, laidLooks := .later }
def FnMakeTextUptoCardSaid : Prop := Claim7.holds Tryz.pinned (.plain (OpenSpec.upto fnMakeTextSpec)) fnMakeTextUptoCard
end Rows
end Go.Proofs.YtjjkagjdbjpikaaGreatDoor
