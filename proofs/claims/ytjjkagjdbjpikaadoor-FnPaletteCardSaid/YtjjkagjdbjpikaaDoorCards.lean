/-
  DERIVED. GIVEN WITH THE SEED: THE CARDS: each row of YtjjkagjdbjpikaaDoorRows.lean that lists a variable, with what it lists TIED to the program's text (the seventh form; the later family's looks); each row that meets fmt, with fmt's text TOLD by the authors' own Lean function (tested against real Go, not proved from fmt's source: count such statements apart). THE CARD IS WHAT COUNTS. Prove the row's statement (the work); the ties are given (YtjjkagjdbjpikaaDoorTie.lean); close each card by the builder's one call (the guide's Derived/Test/ToyasCard.lean, 'card_holds'). Laid BY PROGRAM, IN A SANDBOX (cutbox-door.mjs). By AI agents, Wed Nov 11 2026. No macro, syntax, notation, axiom, sorry.
-/
import Derived.Test.YtjjkagjdbjpikaaDoorRows
import GoSem.ClaimSeven
namespace Go.Proofs.YtjjkagjdbjpikaaDoor
namespace Rows

/-- THE TIED CARD OF 'laws.FnMakeTexts'. -/
def fnMakeTextsCard : Claim7 := { stood := { row := fnMakeTextsRow, standIns := [], harness := (true, "baa202e66748eec1184de984f8fbeea9cb0da8f6e9ae5c140cfe78078f08e3d5"), looks := false }, kinds := [], alts := [], laidByText := true, laidKinds := [.data, .data, .data], laidTests := true, laidLooks := .later }
def FnMakeTextsCardSaid : Prop := Claim7.holds Tryd.pinned (.plain (OpenSpec.ofChange fnMakeTextsSpec)) fnMakeTextsCard

/-- THE TIED CARD OF 'laws.FnMakeClipboard'. -/
def fnMakeClipboardCard : Claim7 := { stood := { row := fnMakeClipboardRow, standIns := [], harness := (true, "baa202e66748eec1184de984f8fbeea9cb0da8f6e9ae5c140cfe78078f08e3d5"), looks := false }, kinds := [], alts := [], laidByText := true, laidKinds := [.data, .data, .data], laidTests := true, laidLooks := .later }
def FnMakeClipboardCardSaid : Prop := Claim7.holds Tryd.pinned (.plain (OpenSpec.ofChange fnMakeClipboardSpec)) fnMakeClipboardCard

/-- THE TIED CARD OF 'laws.FnScreen'. -/
def fnScreenCard : Claim7 := { stood := { row := fnScreenRow, standIns := [], harness := (true, "baa202e66748eec1184de984f8fbeea9cb0da8f6e9ae5c140cfe78078f08e3d5"), looks := false }, kinds := [], alts := [], laidByText := true, laidKinds := [.data, .data, .data, .sentinel], laidTests := true, laidLooks := .later }
def FnScreenCardSaid : Prop := Claim7.holds Tryd.pinned (.plain (OpenSpec.ofChange fnScreenSpec)) fnScreenCard

/-- THE TIED CARD OF 'laws.FnKitty'. -/
def fnKittyCard : Claim7 := { stood := { row := fnKittyRow, standIns := [], harness := (true, "baa202e66748eec1184de984f8fbeea9cb0da8f6e9ae5c140cfe78078f08e3d5"), looks := false }, kinds := [], alts := [], laidByText := true, laidKinds := [.data, .data, .data, .sentinel], laidTests := true, laidLooks := .later }
def FnKittyCardSaid : Prop := Claim7.holds Tryd.pinned (.plain (OpenSpec.ofChange fnKittySpec)) fnKittyCard

/-- THE TIED CARD OF 'laws.FnPalette'. -/
def fnPaletteCard : Claim7 := { stood := { row := fnPaletteRow, standIns := [], harness := (true, "baa202e66748eec1184de984f8fbeea9cb0da8f6e9ae5c140cfe78078f08e3d5"), looks := false }, kinds := [], alts := [], laidByText := true, laidKinds := [.data, .data, .data], laidTests := true, laidLooks := .later }
def FnPaletteCardSaid : Prop := Claim7.holds Tryd.pinned (.plain (OpenSpec.ofChange fnPaletteSpec)) fnPaletteCard

/-- THE TIED CARD OF 'laws.FnMakeStatus'. -/
def fnMakeStatusCard : Claim7 := { stood := { row := fnMakeStatusRow, standIns := [], harness := (true, "baa202e66748eec1184de984f8fbeea9cb0da8f6e9ae5c140cfe78078f08e3d5"), looks := false }, kinds := [], alts := [], laidByText := true, laidKinds := [.data, .data, .data, .data, .pinned], laidTests := true, laidLooks := .later }
def FnMakeStatusCardSaid : Prop := Claim7.holds Tryd.pinned (.plain (OpenSpec.ofChange fnMakeStatusSpec)) fnMakeStatusCard

/-- THE TIED CARD OF 'laws.FnStatusRead'. -/
def fnStatusReadCard : Claim7 := { stood := { row := fnStatusReadRow, standIns := [], harness := (true, "baa202e66748eec1184de984f8fbeea9cb0da8f6e9ae5c140cfe78078f08e3d5"), looks := false }, kinds := [], alts := [], laidByText := true, laidKinds := [.data, .data, .data, .data, .pinned], laidTests := true, laidLooks := .later }
def FnStatusReadCardSaid : Prop := Claim7.holds Tryd.pinned (.plain (OpenSpec.ofChange fnStatusReadSpec)) fnStatusReadCard

/-- THE TIED CARD OF 'laws.FnMouseX10'. -/
def fnMouseX10Card : Claim7 := { stood := { row := fnMouseX10Row, standIns := [], harness := (true, "baa202e66748eec1184de984f8fbeea9cb0da8f6e9ae5c140cfe78078f08e3d5"), looks := false }, kinds := [], alts := [], laidByText := true, laidKinds := [.data, .data, .data], laidTests := true, laidLooks := .later }
def FnMouseX10CardSaid : Prop := Claim7.holds Tryd.pinned (.plain (OpenSpec.ofChange fnMouseX10Spec)) fnMouseX10Card

/-- THE TIED CARD OF 'laws.FnLightDark'. -/
def fnLightDarkCard : Claim7 := { stood := { row := fnLightDarkRow, standIns := [], harness := (true, "baa202e66748eec1184de984f8fbeea9cb0da8f6e9ae5c140cfe78078f08e3d5"), looks := false }, kinds := [], alts := [], laidByText := true, laidKinds := [.data, .data, .data], laidTests := true, laidLooks := .later }
def FnLightDarkCardSaid : Prop := Claim7.holds Tryd.pinned (.plain (OpenSpec.ofChange fnLightDarkSpec)) fnLightDarkCard

/-- THE SECOND FORM's CARD OF 'laws.FnMakeTexts'. -/
def fnMakeTextsUptoCard : Claim7 := { stood := { row := fnMakeTextsUptoRow, standIns := [], harness := (true, "baa202e66748eec1184de984f8fbeea9cb0da8f6e9ae5c140cfe78078f08e3d5"), looks := false }, kinds := [], alts := [], laidByText := true, laidKinds := [.data, .data, .data], laidTests := true, laidLooks := .later }
def FnMakeTextsUptoCardSaid : Prop := Claim7.holds Tryd.pinned (.plain (OpenSpec.upto fnMakeTextsSpec)) fnMakeTextsUptoCard

/-- THE SECOND FORM's CARD OF 'laws.FnMakeClipboard'. -/
def fnMakeClipboardUptoCard : Claim7 := { stood := { row := fnMakeClipboardUptoRow, standIns := [], harness := (true, "baa202e66748eec1184de984f8fbeea9cb0da8f6e9ae5c140cfe78078f08e3d5"), looks := false }, kinds := [], alts := [], laidByText := true, laidKinds := [.data, .data, .data], laidTests := true, laidLooks := .later }
def FnMakeClipboardUptoCardSaid : Prop := Claim7.holds Tryd.pinned (.plain (OpenSpec.upto fnMakeClipboardSpec)) fnMakeClipboardUptoCard

/-- THE SECOND FORM's CARD OF 'laws.FnScreen'. -/
def fnScreenUptoCard : Claim7 := { stood := { row := fnScreenUptoRow, standIns := [], harness := (true, "baa202e66748eec1184de984f8fbeea9cb0da8f6e9ae5c140cfe78078f08e3d5"), looks := false }, kinds := [], alts := [], laidByText := true, laidKinds := [.data, .data, .data, .sentinel], laidTests := true, laidLooks := .later }
def FnScreenUptoCardSaid : Prop := Claim7.holds Tryd.pinned (.plain (OpenSpec.upto fnScreenSpec)) fnScreenUptoCard

/-- THE SECOND FORM's CARD OF 'laws.FnKitty'. -/
def fnKittyUptoCard : Claim7 := { stood := { row := fnKittyUptoRow, standIns := [], harness := (true, "baa202e66748eec1184de984f8fbeea9cb0da8f6e9ae5c140cfe78078f08e3d5"), looks := false }, kinds := [], alts := [], laidByText := true, laidKinds := [.data, .data, .data, .sentinel], laidTests := true, laidLooks := .later }
def FnKittyUptoCardSaid : Prop := Claim7.holds Tryd.pinned (.plain (OpenSpec.upto fnKittySpec)) fnKittyUptoCard

/-- THE SECOND FORM's CARD OF 'laws.FnPalette'. -/
def fnPaletteUptoCard : Claim7 := { stood := { row := fnPaletteUptoRow, standIns := [], harness := (true, "baa202e66748eec1184de984f8fbeea9cb0da8f6e9ae5c140cfe78078f08e3d5"), looks := false }, kinds := [], alts := [], laidByText := true, laidKinds := [.data, .data, .data], laidTests := true, laidLooks := .later }
def FnPaletteUptoCardSaid : Prop := Claim7.holds Tryd.pinned (.plain (OpenSpec.upto fnPaletteSpec)) fnPaletteUptoCard

/-- THE SECOND FORM's CARD OF 'laws.FnMakeStatus'. -/
def fnMakeStatusUptoCard : Claim7 := { stood := { row := fnMakeStatusUptoRow, standIns := [], harness := (true, "baa202e66748eec1184de984f8fbeea9cb0da8f6e9ae5c140cfe78078f08e3d5"), looks := false }, kinds := [], alts := [], laidByText := true, laidKinds := [.data, .data, .data, .data, .pinned], laidTests := true, laidLooks := .later }
def FnMakeStatusUptoCardSaid : Prop := Claim7.holds Tryd.pinned (.plain (OpenSpec.upto fnMakeStatusSpec)) fnMakeStatusUptoCard

/-- THE SECOND FORM's CARD OF 'laws.FnStatusRead'. -/
def fnStatusReadUptoCard : Claim7 := { stood := { row := fnStatusReadUptoRow, standIns := [], harness := (true, "baa202e66748eec1184de984f8fbeea9cb0da8f6e9ae5c140cfe78078f08e3d5"), looks := false }, kinds := [], alts := [], laidByText := true, laidKinds := [.data, .data, .data, .data, .pinned], laidTests := true, laidLooks := .later }
def FnStatusReadUptoCardSaid : Prop := Claim7.holds Tryd.pinned (.plain (OpenSpec.upto fnStatusReadSpec)) fnStatusReadUptoCard

/-- THE SECOND FORM's CARD OF 'laws.FnMouseX10'. -/
def fnMouseX10UptoCard : Claim7 := { stood := { row := fnMouseX10UptoRow, standIns := [], harness := (true, "baa202e66748eec1184de984f8fbeea9cb0da8f6e9ae5c140cfe78078f08e3d5"), looks := false }, kinds := [], alts := [], laidByText := true, laidKinds := [.data, .data, .data], laidTests := true, laidLooks := .later }
def FnMouseX10UptoCardSaid : Prop := Claim7.holds Tryd.pinned (.plain (OpenSpec.upto fnMouseX10Spec)) fnMouseX10UptoCard

/-- THE SECOND FORM's CARD OF 'laws.FnLightDark'. -/
def fnLightDarkUptoCard : Claim7 := { stood := { row := fnLightDarkUptoRow, standIns := [], harness := (true, "baa202e66748eec1184de984f8fbeea9cb0da8f6e9ae5c140cfe78078f08e3d5"), looks := false }, kinds := [], alts := [], laidByText := true, laidKinds := [.data, .data, .data], laidTests := true, laidLooks := .later }
def FnLightDarkUptoCardSaid : Prop := Claim7.holds Tryd.pinned (.plain (OpenSpec.upto fnLightDarkSpec)) fnLightDarkUptoCard
end Rows
end Go.Proofs.YtjjkagjdbjpikaaDoor
